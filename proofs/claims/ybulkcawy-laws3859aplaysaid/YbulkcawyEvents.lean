/-
  eventsAt: the front of the events.
-/
import Derived.Test.YbulkcawyPattern
import Derived.Test.YbulkcawyPlain
namespace Go.Proofs.Ybulkcawy
open Go.RowKit
set_option linter.unusedSimpArgs false
set_option linter.unusedVariables false
set_option maxRecDepth 100000
set_option maxHeartbeats 4000000

def Ev.at (q m : Nat) (e : Ev) : Bool := decide (e.t = m) && decide (e.p = q)

theorem take_stop (evs : List Ev) (p : Ev → Bool) : ∀ (j : Nat), j ≤ evs.length → (∀ e ∈ evs.take j, p e = true) → (∀ (h : j < evs.length), p evs[j] = false) → evs.take j = evs.takeWhile p ∧ evs.drop j = evs.dropWhile p := by
  induction evs with
  | nil => intro j _ _ _; simp
  | cons e evs ih =>
    intro j hj h1 h2
    cases j with
    | zero =>
      have := h2 (by simp)
      simp at this
      simp [List.takeWhile, List.dropWhile, this]
    | succ j =>
      have he : p e = true := h1 e (by simp)
      obtain ⟨e1, e2⟩ := ih j (by simpa using hj) (fun x hx => h1 x (by simp [hx])) (fun h => by have := h2 (by simpa using h); simpa using this)
      simp [List.takeWhile, List.dropWhile, he, e1, e2]

theorem evs_front {w : World} {base bad : Nat} (E o cap : Nat) (evs : List Ev) (j : Nat) (cap' : Nat) (hj : j ≤ evs.length) (hE : E < base) (hb : E ≠ bad) (hc : j ≤ cap) (hlt : E < w.heap.size)
    (h : ∀ k (hk : k < evs.length), w.cell? ⟨E, o + k * 3, none⟩ = some (.int .i64 evs[k].p) ∧ w.cell? ⟨E, o + k * 3 + 1, none⟩ = some (.int .i64 evs[k].t) ∧ w.cell? ⟨E, o + k * 3 + 2, none⟩ = some (labelV evs[k].l)) :
    EvS w base bad (.slice (some ⟨E, o, none⟩) j cap) (evs.take j) := by
  have hl : (evs.take j).length = j := by simp; omega
  refine .inr ⟨E, o, cap, by rw [hl], hE, hb, by omega, hlt, fun k hk => ?_⟩
  have := h k (by omega)
  simpa using this
theorem evs_back {w : World} {base bad : Nat} (E o cap : Nat) (evs : List Ev) (j : Nat) (cap' : Nat) (hj : j ≤ evs.length) (hE : E < base) (hb : E ≠ bad) (hc : evs.length ≤ cap) (hlt : E < w.heap.size)
    (h : ∀ k (hk : k < evs.length), w.cell? ⟨E, o + k * 3, none⟩ = some (.int .i64 evs[k].p) ∧ w.cell? ⟨E, o + k * 3 + 1, none⟩ = some (.int .i64 evs[k].t) ∧ w.cell? ⟨E, o + k * 3 + 2, none⟩ = some (labelV evs[k].l)) :
    EvS w base bad (.slice (some ⟨E, o + j * 3, none⟩) (evs.length - j) (cap - j)) (evs.drop j) := by
  have hl : (evs.drop j).length = evs.length - j := by simp
  refine .inr ⟨E, o + j * 3, cap - j, by rw [hl], hE, hb, by omega, hlt, fun k hk => ?_⟩
  have := h (j + k) (by omega)
  have e1 : o + j * 3 + k * 3 = o + (j + k) * 3 := by omega
  rw [e1]
  simpa using this

theorem evs_nil {w : World} {base bad : Nat} (E o : Nat) (evs : List Ev) (j : Nat) (hj : evs.length ≤ j) (hE : E < base) (hb : E ≠ bad) (hlt : E < w.heap.size) :
    EvS w base bad (.slice (some ⟨E, o, none⟩) 0 0) (evs.drop j) := by
  have hl : evs.drop j = [] := by simp; omega
  rw [hl]
  exact .inr ⟨E, o, 0, rfl, hE, hb, Nat.le_refl _, hlt, fun k hk => by simp at hk⟩

theorem eventsAt (X q m base bad : Nat) (ev : Value) (evs : List Ev) (w : World) (hX : Row w X 37 1 (fun _ => ev)) (hev : EvS w base bad ev evs) (hm : evs.length ≤ 1000) (hXE : ∀ a, ev.ownBlock = some a → a ≠ X) :
    Calls Yba.prog 26 #[.pointer (some ⟨X, 0, none⟩), .int .i64 q, .int .i64 m] w fun e w' => ∃ v1, e = .returned v1 ∧ EvS w' base bad v1 (evs.takeWhile (Ev.at q m)) ∧ ∃ v2, Row w' X 37 1 (fun _ => v2) ∧ EvS w' base bad v2 (evs.dropWhile (Ev.at q m)) ∧ (∀ a, v2.ownBlock = some a → a ≠ X) ∧ Only (fun b => b = X) w w' := by
  have cX := hX.cell 0 (by omega)
  have fX := hX.frozen 0
  obtain ⟨ea, ec, rfl⟩ := hev.len
  have HX := hidP hX
  have HEV := hidP hev
  have HXE := hidP hXE
  clear hX hev hXE
  refine calls_of_wp Yba.func26 rfl ?_
  simp only [Yba.ntmps26, List.size_toArray, List.length_cons, List.length_nil, Nat.reduceAdd, Nat.reduceSub, Array.replicate_succ, Array.replicate_zero, List.push_toArray, List.append_toArray, List.nil_append, List.cons_append]
  go_wp2_with fail
  obtain ⟨I, hI⟩ : ∃ I : Nat → Array Value → World → Prop, I = (fun k T wr => wr = w ∧ ∃ j, j + k = evs.length ∧ T.size = 44 ∧ T[0]?.getD undef = .pointer (some ⟨X, 0, none⟩) ∧ T[1]?.getD undef = .int .i64 q ∧ T[2]?.getD undef = .int .i64 m ∧ T[7]?.getD undef = .slice ea evs.length ec ∧ T[8]?.getD undef = .int .i64 j ∧ ∀ e ∈ evs.take j, Ev.at q m e = true) := ⟨_, rfl⟩
  have HI := hidP hI
  clear hI
  refine wp_loop_n I ?_ evs.length _ _ ?_
  · intro k T wr hIk
    rw [HI.out] at hIk
    obtain ⟨rfl, j, hjk, hT, t0, t1, t2, t7, t8, hall⟩ := hIk
    have a0 : T[0]'(by omega) = _ := at_of _ t0
    have a1 : T[1]'(by omega) = _ := at_of _ t1
    have a2 : T[2]'(by omega) = _ := at_of _ t2
    have a7 : T[7]'(by omega) = _ := at_of _ t7
    have a8 : T[8]'(by omega) = _ := at_of _ t8
    have HALL := hidP hall
    clear hall t0 t1 t2 t7 t8
    apply wp_seq_k; intro _ _
    apply wp_seq_k; intro _ _

    by_cases hj : j < evs.length
    · obtain ⟨E, o, cap, hv, hEB, hEL, hcap, hElt, hcE⟩ : ∃ E o cap, Value.slice ea evs.length ec = .slice (some ⟨E, o, none⟩) evs.length cap ∧ E < base ∧ E ≠ bad ∧ evs.length ≤ cap ∧ E < wr.heap.size ∧
          ∀ k (hk : k < evs.length), wr.cell? ⟨E, o + k * 3, none⟩ = some (.int .i64 evs[k].p) ∧ wr.cell? ⟨E, o + k * 3 + 1, none⟩ = some (.int .i64 evs[k].t) ∧ wr.cell? ⟨E, o + k * 3 + 2, none⟩ = some (labelV evs[k].l) := by
        rcases HEV.out with ⟨_, h⟩ | h
        · rw [h] at hj; simp at hj
        · exact h
      obtain ⟨c0, c1, c2⟩ := hcE j hj
      rw [hv] at a7
      have HV := hidP hv
      have HCE := hidP (And.intro hEB hcE)
      have i1 : (0 : Int) ≤ (j : Int) := by omega
      have i2 : (j : Int) < (evs.length : Int) := by omega
      clear hv hcE
      by_cases ht : evs[j].t = m
      · have ht' : ((evs[j].t : Int) == (m : Int)) = true := by simp [ht]
        have HT := hidP ht
        clear ht
        by_cases hp : evs[j].p = q
        · have hp' : ((evs[j].p : Int) == (q : Int)) = true := by simp [hp]
          have HP := hidP hp
          clear hp
          refine region_plain _ 44 (by simp [hT]) [.int .i64 j, .slice (some ⟨E, o, none⟩) evs.length cap, .int .i64 evs.length, .bool true, .bool true, .slice (some ⟨E, o, none⟩) evs.length cap, .int .i64 j, .pointer (some ⟨E, o + j * 3, none⟩), .pointer (some ⟨E, o + j * 3 + 1, none⟩), .int .i64 evs[j].t, .int .i64 m, .bool true, .bool true, .bool true, .slice (some ⟨E, o, none⟩) evs.length cap, .int .i64 j, .pointer (some ⟨E, o + j * 3, none⟩), .pointer (some ⟨E, o + j * 3, none⟩), .int .i64 evs[j].p, .int .i64 q, .bool true, .bool true] wr (by decide) (by decide) ?_ ?_
          · intro i hi U hU hK hprev
            have hi' : i < 22 := hi
            rcases (by omega : i = 0 ∨ i = 1 ∨ i = 2 ∨ i = 3 ∨ i = 4 ∨ i = 5 ∨ i = 6 ∨ i = 7 ∨ i = 8 ∨ i = 9 ∨ i = 10 ∨ i = 11 ∨ i = 12 ∨ i = 13 ∨ i = 14 ∨ i = 15 ∨ i = 16 ∨ i = 17 ∨ i = 18 ∨ i = 19 ∨ i = 20 ∨ i = 21) with rfl | rfl | rfl | rfl | rfl | rfl | rfl | rfl | rfl | rfl | rfl | rfl | rfl | rfl | rfl | rfl | rfl | rfl | rfl | rfl | rfl | rfl
            · have hu8 : U[8]?.getD undef = .int .i64 j := kept_of hK 8 (by decide) (by simp [hT, a0, a1, a2, a7, a8])
              refine .inl ⟨want_none rfl, ?_⟩
              refine step_of_run (v := .int .i64 j) (w' := _) ?_ ⟨rfl, _, rfl, (fun h => by cases h), rfl⟩
              simp [execOp, go_sem, hu8, i1, i2, c0, c1, ht', hp']
            · have hu7 : U[7]?.getD undef = .slice (some ⟨E, o, none⟩) evs.length cap := kept_of hK 7 (by decide) (by simp [hT, a0, a1, a2, a7, a8])
              refine .inl ⟨want_none rfl, ?_⟩
              refine step_of_run (v := .slice (some ⟨E, o, none⟩) evs.length cap) (w' := _) ?_ ⟨rfl, _, rfl, (fun h => by cases h), rfl⟩
              simp [execOp, go_sem, hu7, i1, i2, c0, c1, ht', hp']
            · have d1 : U[13]?.getD undef = .slice (some ⟨E, o, none⟩) evs.length cap := slot_of (hprev 1 (by decide)) rfl
              refine .inl ⟨want_none rfl, ?_⟩
              refine step_of_run (v := .int .i64 evs.length) (w' := _) ?_ ⟨rfl, _, rfl, (fun h => by cases h), rfl⟩
              simp [execOp, go_sem, d1, i1, i2, c0, c1, ht', hp']
            · have d0 : U[12]?.getD undef = .int .i64 j := slot_of (hprev 0 (by decide)) rfl
              have d2 : U[14]?.getD undef = .int .i64 evs.length := slot_of (hprev 2 (by decide)) rfl
              refine .inl ⟨want_none rfl, ?_⟩
              refine step_of_run (v := .bool true) (w' := _) ?_ ⟨rfl, _, rfl, (fun h => by cases h), rfl⟩
              simp [execOp, go_sem, d0, d2, i1, i2, c0, c1, ht', hp']
            · have d3 : U[15]?.getD undef = .bool true := slot_of (hprev 3 (by decide)) rfl
              refine .inl ⟨want_none rfl, ?_⟩
              refine step_of_run (v := .bool true) (w' := _) ?_ ⟨rfl, _, rfl, (fun h => by cases h), rfl⟩
              simp [execOp, go_sem, d3, i1, i2, c0, c1, ht', hp']
            · have hu7 : U[7]?.getD undef = .slice (some ⟨E, o, none⟩) evs.length cap := kept_of hK 7 (by decide) (by simp [hT, a0, a1, a2, a7, a8])
              refine .inl ⟨want_of (d := 16) rfl rfl (by omega) (slot_of (hprev 4 (by decide)) rfl), ?_⟩
              refine step_of_run (v := .slice (some ⟨E, o, none⟩) evs.length cap) (w' := _) ?_ ⟨rfl, _, rfl, (fun h => by cases h), rfl⟩
              simp [execOp, go_sem, hu7, i1, i2, c0, c1, ht', hp']
            · have hu8 : U[8]?.getD undef = .int .i64 j := kept_of hK 8 (by decide) (by simp [hT, a0, a1, a2, a7, a8])
              refine .inl ⟨want_of (d := 16) rfl rfl (by omega) (slot_of (hprev 4 (by decide)) rfl), ?_⟩
              refine step_of_run (v := .int .i64 j) (w' := _) ?_ ⟨rfl, _, rfl, (fun h => by cases h), rfl⟩
              simp [execOp, go_sem, hu8, i1, i2, c0, c1, ht', hp']
            · have d5 : U[17]?.getD undef = .slice (some ⟨E, o, none⟩) evs.length cap := slot_of (hprev 5 (by decide)) rfl
              have d6 : U[18]?.getD undef = .int .i64 j := slot_of (hprev 6 (by decide)) rfl
              refine .inl ⟨want_of (d := 16) rfl rfl (by omega) (slot_of (hprev 4 (by decide)) rfl), ?_⟩
              refine step_of_run (v := .pointer (some ⟨E, o + j * 3, none⟩)) (w' := _) ?_ ⟨rfl, _, rfl, (fun h => by cases h), rfl⟩
              simp [execOp, go_sem, d5, d6, i1, i2, c0, c1, ht', hp']
            · have d7 : U[19]?.getD undef = .pointer (some ⟨E, o + j * 3, none⟩) := slot_of (hprev 7 (by decide)) rfl
              refine .inl ⟨want_of (d := 16) rfl rfl (by omega) (slot_of (hprev 4 (by decide)) rfl), ?_⟩
              refine step_of_run (v := .pointer (some ⟨E, o + j * 3 + 1, none⟩)) (w' := _) ?_ ⟨rfl, _, rfl, (fun h => by cases h), rfl⟩
              simp [execOp, go_sem, d7, i1, i2, c0, c1, ht', hp']
            · have d8 : U[20]?.getD undef = .pointer (some ⟨E, o + j * 3 + 1, none⟩) := slot_of (hprev 8 (by decide)) rfl
              refine .inl ⟨want_of (d := 16) rfl rfl (by omega) (slot_of (hprev 4 (by decide)) rfl), ?_⟩
              refine step_of_run (v := .int .i64 evs[j].t) (w' := _) ?_ ⟨rfl, _, rfl, (fun h => by cases h), rfl⟩
              simp [execOp, go_sem, d8, i1, i2, c0, c1, ht', hp']
            · have hu2 : U[2]?.getD undef = .int .i64 m := kept_of hK 2 (by decide) (by simp [hT, a0, a1, a2, a7, a8])
              refine .inl ⟨want_of (d := 16) rfl rfl (by omega) (slot_of (hprev 4 (by decide)) rfl), ?_⟩
              refine step_of_run (v := .int .i64 m) (w' := _) ?_ ⟨rfl, _, rfl, (fun h => by cases h), rfl⟩
              simp [execOp, go_sem, hu2, i1, i2, c0, c1, ht', hp']
            · have d9 : U[21]?.getD undef = .int .i64 evs[j].t := slot_of (hprev 9 (by decide)) rfl
              have d10 : U[22]?.getD undef = .int .i64 m := slot_of (hprev 10 (by decide)) rfl
              refine .inl ⟨want_of (d := 16) rfl rfl (by omega) (slot_of (hprev 4 (by decide)) rfl), ?_⟩
              refine step_of_run (v := .bool true) (w' := _) ?_ ⟨rfl, _, rfl, (fun h => by cases h), rfl⟩
              simp [execOp, go_sem, d9, d10, i1, i2, c0, c1, ht', hp']
            · have d4 : U[16]?.getD undef = .bool true := slot_of (hprev 4 (by decide)) rfl
              have d11 : U[23]?.getD undef = .bool true := slot_of (hprev 11 (by decide)) rfl
              refine .inl ⟨want_none rfl, ?_⟩
              refine step_of_run (v := .bool true) (w' := _) ?_ ⟨rfl, _, rfl, (fun h => by cases h), rfl⟩
              simp [execOp, go_sem, d4, d11, i1, i2, c0, c1, ht', hp']
            · have d12 : U[24]?.getD undef = .bool true := slot_of (hprev 12 (by decide)) rfl
              refine .inl ⟨want_none rfl, ?_⟩
              refine step_of_run (v := .bool true) (w' := _) ?_ ⟨rfl, _, rfl, (fun h => by cases h), rfl⟩
              simp [execOp, go_sem, d12, i1, i2, c0, c1, ht', hp']
            · have hu7 : U[7]?.getD undef = .slice (some ⟨E, o, none⟩) evs.length cap := kept_of hK 7 (by decide) (by simp [hT, a0, a1, a2, a7, a8])
              refine .inl ⟨want_of (d := 25) rfl rfl (by omega) (slot_of (hprev 13 (by decide)) rfl), ?_⟩
              refine step_of_run (v := .slice (some ⟨E, o, none⟩) evs.length cap) (w' := _) ?_ ⟨rfl, _, rfl, (fun h => by cases h), rfl⟩
              simp [execOp, go_sem, hu7, i1, i2, c0, c1, ht', hp']
            · have hu8 : U[8]?.getD undef = .int .i64 j := kept_of hK 8 (by decide) (by simp [hT, a0, a1, a2, a7, a8])
              refine .inl ⟨want_of (d := 25) rfl rfl (by omega) (slot_of (hprev 13 (by decide)) rfl), ?_⟩
              refine step_of_run (v := .int .i64 j) (w' := _) ?_ ⟨rfl, _, rfl, (fun h => by cases h), rfl⟩
              simp [execOp, go_sem, hu8, i1, i2, c0, c1, ht', hp']
            · have d14 : U[26]?.getD undef = .slice (some ⟨E, o, none⟩) evs.length cap := slot_of (hprev 14 (by decide)) rfl
              have d15 : U[27]?.getD undef = .int .i64 j := slot_of (hprev 15 (by decide)) rfl
              refine .inl ⟨want_of (d := 25) rfl rfl (by omega) (slot_of (hprev 13 (by decide)) rfl), ?_⟩
              refine step_of_run (v := .pointer (some ⟨E, o + j * 3, none⟩)) (w' := _) ?_ ⟨rfl, _, rfl, (fun h => by cases h), rfl⟩
              simp [execOp, go_sem, d14, d15, i1, i2, c0, c1, ht', hp']
            · have d16 : U[28]?.getD undef = .pointer (some ⟨E, o + j * 3, none⟩) := slot_of (hprev 16 (by decide)) rfl
              refine .inl ⟨want_of (d := 25) rfl rfl (by omega) (slot_of (hprev 13 (by decide)) rfl), ?_⟩
              refine step_of_run (v := .pointer (some ⟨E, o + j * 3, none⟩)) (w' := _) ?_ ⟨rfl, _, rfl, (fun h => by cases h), rfl⟩
              simp [execOp, go_sem, d16, i1, i2, c0, c1, ht', hp']
            · have d17 : U[29]?.getD undef = .pointer (some ⟨E, o + j * 3, none⟩) := slot_of (hprev 17 (by decide)) rfl
              refine .inl ⟨want_of (d := 25) rfl rfl (by omega) (slot_of (hprev 13 (by decide)) rfl), ?_⟩
              refine step_of_run (v := .int .i64 evs[j].p) (w' := _) ?_ ⟨rfl, _, rfl, (fun h => by cases h), rfl⟩
              simp [execOp, go_sem, d17, i1, i2, c0, c1, ht', hp']
            · have hu1 : U[1]?.getD undef = .int .i64 q := kept_of hK 1 (by decide) (by simp [hT, a0, a1, a2, a7, a8])
              refine .inl ⟨want_of (d := 25) rfl rfl (by omega) (slot_of (hprev 13 (by decide)) rfl), ?_⟩
              refine step_of_run (v := .int .i64 q) (w' := _) ?_ ⟨rfl, _, rfl, (fun h => by cases h), rfl⟩
              simp [execOp, go_sem, hu1, i1, i2, c0, c1, ht', hp']
            · have d18 : U[30]?.getD undef = .int .i64 evs[j].p := slot_of (hprev 18 (by decide)) rfl
              have d19 : U[31]?.getD undef = .int .i64 q := slot_of (hprev 19 (by decide)) rfl
              refine .inl ⟨want_of (d := 25) rfl rfl (by omega) (slot_of (hprev 13 (by decide)) rfl), ?_⟩
              refine step_of_run (v := .bool true) (w' := _) ?_ ⟨rfl, _, rfl, (fun h => by cases h), rfl⟩
              simp [execOp, go_sem, d18, d19, i1, i2, c0, c1, ht', hp']
            · have d13 : U[25]?.getD undef = .bool true := slot_of (hprev 13 (by decide)) rfl
              have d20 : U[32]?.getD undef = .bool true := slot_of (hprev 20 (by decide)) rfl
              refine .inl ⟨want_none rfl, ?_⟩
              refine step_of_run (v := .bool true) (w' := _) ?_ ⟨rfl, _, rfl, (fun h => by cases h), rfl⟩
              simp [execOp, go_sem, d13, d20, i1, i2, c0, c1, ht', hp']
          · intro U hU hK hall2
            have b0 : U[0]'(by omega) = .pointer (some ⟨X, 0, none⟩) := at_of _ (kept_of hK 0 (by decide) (by simp [hT, a0]))
            have b1 : U[1]'(by omega) = .int .i64 q := at_of _ (kept_of hK 1 (by decide) (by simp [hT, a1]))
            have b2 : U[2]'(by omega) = .int .i64 m := at_of _ (kept_of hK 2 (by decide) (by simp [hT, a2]))
            have b7 : U[7]'(by omega) = .slice (some ⟨E, o, none⟩) evs.length cap := at_of _ (kept_of hK 7 (by decide) (by simp [hT, a7]))
            have b8 : U[8]'(by omega) = .int .i64 j := at_of _ (kept_of hK 8 (by decide) (by simp [hT, a8]))
            have b33 : U[33]?.getD undef = .bool true := slot_of (hall2 21 (by decide)) rfl
            clear hall2 hK
            go_wp2_with fail
            refine wp_cond_at true (by simpa [Act.eval] using b33) (fun h => ?_) (fun h => by cases h)
            go_wp2_with fail
            first | refine ⟨trivial, k - 1, by omega, ?_⟩ | refine ⟨k - 1, by omega, ?_⟩
            rw [HI.out]
            refine ⟨rfl, j + 1, by omega, by simp [hU], by simp [hU, b0], by simp [hU, b1], by simp [hU, b2], by rw [HV.out]; simp [hU, b7], by simp [hU], fun e he => ?_⟩
            rw [List.take_add_one, List.getElem?_eq_getElem hj] at he
            rcases List.mem_append.1 he with he | he
            · exact HALL.out e he
            · obtain rfl : e = evs[j] := by simpa using he
              simp [Ev.at, HT.out, HP.out]
        · have hp' : ((evs[j].p : Int) == (q : Int)) = false := by simp; omega
          have HP := hidP hp
          clear hp
          refine region_plain _ 44 (by simp [hT]) [.int .i64 j, .slice (some ⟨E, o, none⟩) evs.length cap, .int .i64 evs.length, .bool true, .bool true, .slice (some ⟨E, o, none⟩) evs.length cap, .int .i64 j, .pointer (some ⟨E, o + j * 3, none⟩), .pointer (some ⟨E, o + j * 3 + 1, none⟩), .int .i64 evs[j].t, .int .i64 m, .bool true, .bool true, .bool true, .slice (some ⟨E, o, none⟩) evs.length cap, .int .i64 j, .pointer (some ⟨E, o + j * 3, none⟩), .pointer (some ⟨E, o + j * 3, none⟩), .int .i64 evs[j].p, .int .i64 q, .bool false, .bool false] wr (by decide) (by decide) ?_ ?_
          · intro i hi U hU hK hprev
            have hi' : i < 22 := hi
            rcases (by omega : i = 0 ∨ i = 1 ∨ i = 2 ∨ i = 3 ∨ i = 4 ∨ i = 5 ∨ i = 6 ∨ i = 7 ∨ i = 8 ∨ i = 9 ∨ i = 10 ∨ i = 11 ∨ i = 12 ∨ i = 13 ∨ i = 14 ∨ i = 15 ∨ i = 16 ∨ i = 17 ∨ i = 18 ∨ i = 19 ∨ i = 20 ∨ i = 21) with rfl | rfl | rfl | rfl | rfl | rfl | rfl | rfl | rfl | rfl | rfl | rfl | rfl | rfl | rfl | rfl | rfl | rfl | rfl | rfl | rfl | rfl
            · have hu8 : U[8]?.getD undef = .int .i64 j := kept_of hK 8 (by decide) (by simp [hT, a0, a1, a2, a7, a8])
              refine .inl ⟨want_none rfl, ?_⟩
              refine step_of_run (v := .int .i64 j) (w' := _) ?_ ⟨rfl, _, rfl, (fun h => by cases h), rfl⟩
              simp [execOp, go_sem, hu8, i1, i2, c0, c1, ht', hp']
            · have hu7 : U[7]?.getD undef = .slice (some ⟨E, o, none⟩) evs.length cap := kept_of hK 7 (by decide) (by simp [hT, a0, a1, a2, a7, a8])
              refine .inl ⟨want_none rfl, ?_⟩
              refine step_of_run (v := .slice (some ⟨E, o, none⟩) evs.length cap) (w' := _) ?_ ⟨rfl, _, rfl, (fun h => by cases h), rfl⟩
              simp [execOp, go_sem, hu7, i1, i2, c0, c1, ht', hp']
            · have d1 : U[13]?.getD undef = .slice (some ⟨E, o, none⟩) evs.length cap := slot_of (hprev 1 (by decide)) rfl
              refine .inl ⟨want_none rfl, ?_⟩
              refine step_of_run (v := .int .i64 evs.length) (w' := _) ?_ ⟨rfl, _, rfl, (fun h => by cases h), rfl⟩
              simp [execOp, go_sem, d1, i1, i2, c0, c1, ht', hp']
            · have d0 : U[12]?.getD undef = .int .i64 j := slot_of (hprev 0 (by decide)) rfl
              have d2 : U[14]?.getD undef = .int .i64 evs.length := slot_of (hprev 2 (by decide)) rfl
              refine .inl ⟨want_none rfl, ?_⟩
              refine step_of_run (v := .bool true) (w' := _) ?_ ⟨rfl, _, rfl, (fun h => by cases h), rfl⟩
              simp [execOp, go_sem, d0, d2, i1, i2, c0, c1, ht', hp']
            · have d3 : U[15]?.getD undef = .bool true := slot_of (hprev 3 (by decide)) rfl
              refine .inl ⟨want_none rfl, ?_⟩
              refine step_of_run (v := .bool true) (w' := _) ?_ ⟨rfl, _, rfl, (fun h => by cases h), rfl⟩
              simp [execOp, go_sem, d3, i1, i2, c0, c1, ht', hp']
            · have hu7 : U[7]?.getD undef = .slice (some ⟨E, o, none⟩) evs.length cap := kept_of hK 7 (by decide) (by simp [hT, a0, a1, a2, a7, a8])
              refine .inl ⟨want_of (d := 16) rfl rfl (by omega) (slot_of (hprev 4 (by decide)) rfl), ?_⟩
              refine step_of_run (v := .slice (some ⟨E, o, none⟩) evs.length cap) (w' := _) ?_ ⟨rfl, _, rfl, (fun h => by cases h), rfl⟩
              simp [execOp, go_sem, hu7, i1, i2, c0, c1, ht', hp']
            · have hu8 : U[8]?.getD undef = .int .i64 j := kept_of hK 8 (by decide) (by simp [hT, a0, a1, a2, a7, a8])
              refine .inl ⟨want_of (d := 16) rfl rfl (by omega) (slot_of (hprev 4 (by decide)) rfl), ?_⟩
              refine step_of_run (v := .int .i64 j) (w' := _) ?_ ⟨rfl, _, rfl, (fun h => by cases h), rfl⟩
              simp [execOp, go_sem, hu8, i1, i2, c0, c1, ht', hp']
            · have d5 : U[17]?.getD undef = .slice (some ⟨E, o, none⟩) evs.length cap := slot_of (hprev 5 (by decide)) rfl
              have d6 : U[18]?.getD undef = .int .i64 j := slot_of (hprev 6 (by decide)) rfl
              refine .inl ⟨want_of (d := 16) rfl rfl (by omega) (slot_of (hprev 4 (by decide)) rfl), ?_⟩
              refine step_of_run (v := .pointer (some ⟨E, o + j * 3, none⟩)) (w' := _) ?_ ⟨rfl, _, rfl, (fun h => by cases h), rfl⟩
              simp [execOp, go_sem, d5, d6, i1, i2, c0, c1, ht', hp']
            · have d7 : U[19]?.getD undef = .pointer (some ⟨E, o + j * 3, none⟩) := slot_of (hprev 7 (by decide)) rfl
              refine .inl ⟨want_of (d := 16) rfl rfl (by omega) (slot_of (hprev 4 (by decide)) rfl), ?_⟩
              refine step_of_run (v := .pointer (some ⟨E, o + j * 3 + 1, none⟩)) (w' := _) ?_ ⟨rfl, _, rfl, (fun h => by cases h), rfl⟩
              simp [execOp, go_sem, d7, i1, i2, c0, c1, ht', hp']
            · have d8 : U[20]?.getD undef = .pointer (some ⟨E, o + j * 3 + 1, none⟩) := slot_of (hprev 8 (by decide)) rfl
              refine .inl ⟨want_of (d := 16) rfl rfl (by omega) (slot_of (hprev 4 (by decide)) rfl), ?_⟩
              refine step_of_run (v := .int .i64 evs[j].t) (w' := _) ?_ ⟨rfl, _, rfl, (fun h => by cases h), rfl⟩
              simp [execOp, go_sem, d8, i1, i2, c0, c1, ht', hp']
            · have hu2 : U[2]?.getD undef = .int .i64 m := kept_of hK 2 (by decide) (by simp [hT, a0, a1, a2, a7, a8])
              refine .inl ⟨want_of (d := 16) rfl rfl (by omega) (slot_of (hprev 4 (by decide)) rfl), ?_⟩
              refine step_of_run (v := .int .i64 m) (w' := _) ?_ ⟨rfl, _, rfl, (fun h => by cases h), rfl⟩
              simp [execOp, go_sem, hu2, i1, i2, c0, c1, ht', hp']
            · have d9 : U[21]?.getD undef = .int .i64 evs[j].t := slot_of (hprev 9 (by decide)) rfl
              have d10 : U[22]?.getD undef = .int .i64 m := slot_of (hprev 10 (by decide)) rfl
              refine .inl ⟨want_of (d := 16) rfl rfl (by omega) (slot_of (hprev 4 (by decide)) rfl), ?_⟩
              refine step_of_run (v := .bool true) (w' := _) ?_ ⟨rfl, _, rfl, (fun h => by cases h), rfl⟩
              simp [execOp, go_sem, d9, d10, i1, i2, c0, c1, ht', hp']
            · have d4 : U[16]?.getD undef = .bool true := slot_of (hprev 4 (by decide)) rfl
              have d11 : U[23]?.getD undef = .bool true := slot_of (hprev 11 (by decide)) rfl
              refine .inl ⟨want_none rfl, ?_⟩
              refine step_of_run (v := .bool true) (w' := _) ?_ ⟨rfl, _, rfl, (fun h => by cases h), rfl⟩
              simp [execOp, go_sem, d4, d11, i1, i2, c0, c1, ht', hp']
            · have d12 : U[24]?.getD undef = .bool true := slot_of (hprev 12 (by decide)) rfl
              refine .inl ⟨want_none rfl, ?_⟩
              refine step_of_run (v := .bool true) (w' := _) ?_ ⟨rfl, _, rfl, (fun h => by cases h), rfl⟩
              simp [execOp, go_sem, d12, i1, i2, c0, c1, ht', hp']
            · have hu7 : U[7]?.getD undef = .slice (some ⟨E, o, none⟩) evs.length cap := kept_of hK 7 (by decide) (by simp [hT, a0, a1, a2, a7, a8])
              refine .inl ⟨want_of (d := 25) rfl rfl (by omega) (slot_of (hprev 13 (by decide)) rfl), ?_⟩
              refine step_of_run (v := .slice (some ⟨E, o, none⟩) evs.length cap) (w' := _) ?_ ⟨rfl, _, rfl, (fun h => by cases h), rfl⟩
              simp [execOp, go_sem, hu7, i1, i2, c0, c1, ht', hp']
            · have hu8 : U[8]?.getD undef = .int .i64 j := kept_of hK 8 (by decide) (by simp [hT, a0, a1, a2, a7, a8])
              refine .inl ⟨want_of (d := 25) rfl rfl (by omega) (slot_of (hprev 13 (by decide)) rfl), ?_⟩
              refine step_of_run (v := .int .i64 j) (w' := _) ?_ ⟨rfl, _, rfl, (fun h => by cases h), rfl⟩
              simp [execOp, go_sem, hu8, i1, i2, c0, c1, ht', hp']
            · have d14 : U[26]?.getD undef = .slice (some ⟨E, o, none⟩) evs.length cap := slot_of (hprev 14 (by decide)) rfl
              have d15 : U[27]?.getD undef = .int .i64 j := slot_of (hprev 15 (by decide)) rfl
              refine .inl ⟨want_of (d := 25) rfl rfl (by omega) (slot_of (hprev 13 (by decide)) rfl), ?_⟩
              refine step_of_run (v := .pointer (some ⟨E, o + j * 3, none⟩)) (w' := _) ?_ ⟨rfl, _, rfl, (fun h => by cases h), rfl⟩
              simp [execOp, go_sem, d14, d15, i1, i2, c0, c1, ht', hp']
            · have d16 : U[28]?.getD undef = .pointer (some ⟨E, o + j * 3, none⟩) := slot_of (hprev 16 (by decide)) rfl
              refine .inl ⟨want_of (d := 25) rfl rfl (by omega) (slot_of (hprev 13 (by decide)) rfl), ?_⟩
              refine step_of_run (v := .pointer (some ⟨E, o + j * 3, none⟩)) (w' := _) ?_ ⟨rfl, _, rfl, (fun h => by cases h), rfl⟩
              simp [execOp, go_sem, d16, i1, i2, c0, c1, ht', hp']
            · have d17 : U[29]?.getD undef = .pointer (some ⟨E, o + j * 3, none⟩) := slot_of (hprev 17 (by decide)) rfl
              refine .inl ⟨want_of (d := 25) rfl rfl (by omega) (slot_of (hprev 13 (by decide)) rfl), ?_⟩
              refine step_of_run (v := .int .i64 evs[j].p) (w' := _) ?_ ⟨rfl, _, rfl, (fun h => by cases h), rfl⟩
              simp [execOp, go_sem, d17, i1, i2, c0, c1, ht', hp']
            · have hu1 : U[1]?.getD undef = .int .i64 q := kept_of hK 1 (by decide) (by simp [hT, a0, a1, a2, a7, a8])
              refine .inl ⟨want_of (d := 25) rfl rfl (by omega) (slot_of (hprev 13 (by decide)) rfl), ?_⟩
              refine step_of_run (v := .int .i64 q) (w' := _) ?_ ⟨rfl, _, rfl, (fun h => by cases h), rfl⟩
              simp [execOp, go_sem, hu1, i1, i2, c0, c1, ht', hp']
            · have d18 : U[30]?.getD undef = .int .i64 evs[j].p := slot_of (hprev 18 (by decide)) rfl
              have d19 : U[31]?.getD undef = .int .i64 q := slot_of (hprev 19 (by decide)) rfl
              refine .inl ⟨want_of (d := 25) rfl rfl (by omega) (slot_of (hprev 13 (by decide)) rfl), ?_⟩
              refine step_of_run (v := .bool false) (w' := _) ?_ ⟨rfl, _, rfl, (fun h => by cases h), rfl⟩
              simp [execOp, go_sem, d18, d19, i1, i2, c0, c1, ht', hp']
            · have d13 : U[25]?.getD undef = .bool true := slot_of (hprev 13 (by decide)) rfl
              have d20 : U[32]?.getD undef = .bool false := slot_of (hprev 20 (by decide)) rfl
              refine .inl ⟨want_none rfl, ?_⟩
              refine step_of_run (v := .bool false) (w' := _) ?_ ⟨rfl, _, rfl, (fun h => by cases h), rfl⟩
              simp [execOp, go_sem, d13, d20, i1, i2, c0, c1, ht', hp']
          · intro U hU hK hall2
            have b0 : U[0]'(by omega) = .pointer (some ⟨X, 0, none⟩) := at_of _ (kept_of hK 0 (by decide) (by simp [hT, a0]))
            have b1 : U[1]'(by omega) = .int .i64 q := at_of _ (kept_of hK 1 (by decide) (by simp [hT, a1]))
            have b2 : U[2]'(by omega) = .int .i64 m := at_of _ (kept_of hK 2 (by decide) (by simp [hT, a2]))
            have b7 : U[7]'(by omega) = .slice (some ⟨E, o, none⟩) evs.length cap := at_of _ (kept_of hK 7 (by decide) (by simp [hT, a7]))
            have b8 : U[8]'(by omega) = .int .i64 j := at_of _ (kept_of hK 8 (by decide) (by simp [hT, a8]))
            have b33 : U[33]?.getD undef = .bool false := slot_of (hall2 21 (by decide)) rfl
            clear hall2 hK
            go_wp2_with fail
            refine wp_cond_at false (by simpa [Act.eval] using b33) (fun h => by cases h) (fun h => ?_)
            have hstop : ∀ (h : j < evs.length), Ev.at q m evs[j] = false := fun h => by
              simp [Ev.at, HP.out]
            obtain ⟨htk, hdr⟩ := take_stop evs (Ev.at q m) j (by omega) HALL.out hstop
            have i5 : (0 : Int) ≤ (j : Int) := by omega
            have i6 : (j : Int) ≤ (evs.length : Int) := by omega
            obtain ⟨hEB', hcE⟩ := HCE.out
            have i7 : (evs.length : Int) ≤ (cap : Int) := by omega
            have HTK := hidP htk
            have HDR := hidP hdr
            clear htk hdr hstop
            have hEX : E ≠ X := HXE.out E (by rw [HV.out]; rfl)
            have hcells : ∀ k (hk : k < evs.length), ∀ v, (wr.setCell ⟨X, 0, none⟩ v).cell? ⟨E, o + k * 3, none⟩ = some (.int .i64 evs[k].p) ∧ (wr.setCell ⟨X, 0, none⟩ v).cell? ⟨E, o + k * 3 + 1, none⟩ = some (.int .i64 evs[k].t) ∧ (wr.setCell ⟨X, 0, none⟩ v).cell? ⟨E, o + k * 3 + 2, none⟩ = some (labelV evs[k].l) := fun k hk v => by
              have e : ∀ q, (wr.setCell ⟨X, 0, none⟩ v).cell? ⟨E, q, none⟩ = wr.cell? ⟨E, q, none⟩ := fun q => World.cell?_of_block (w := wr) (a := ⟨E, q, none⟩) (Below.heap_setCell _ _ _ _ hEX)
              rw [e, e, e]
              exact HCE.out.2 k hk
            have HCL := hidP hcells
            clear hcells
            have i8 : ¬ cap = j := by omega
            go_wp2_with fail
            have hcells := fun k hk => HCL.out k hk (.slice (some ⟨E, o + j * 3, none⟩) (evs.length - j) (cap - j))
            refine bodyPost_ret (v := .slice (some ⟨E, o, none⟩) j cap) (by simp [results, Yba.results26, hU]) rfl ⟨_, rfl, ?_, .slice (some ⟨E, o + j * 3, none⟩) (evs.length - j) (cap - j), (HX.out.set 0 _).ext (fun k hk => by simp [show k = 0 by omega]), ?_, ?_, Only.setCell (S := fun b => b = X) Only.refl (p := ⟨X, 0, none⟩) (fun _ => rfl) _⟩
            · rw [← HTK.out]
              exact evs_front E o cap evs j 0 (by omega) hEB hEL (by omega) (by simp [World.setCell]; omega) (fun k hk => hcells k hk)
            · rw [← HDR.out]
              exact evs_back E o cap evs j 0 (by omega) hEB hEL (by omega) (by simp [World.setCell]; omega) (fun k hk => hcells k hk)
            · intro a h
              simp [Value.ownBlock] at h
              subst h
              exact HXE.out E (by rw [HV.out]; rfl)
      · have ht' : ((evs[j].t : Int) == (m : Int)) = false := by simp; omega
        have HT := hidP ht
        clear ht
        refine region_plain _ 44 (by simp [hT]) [.int .i64 j, .slice (some ⟨E, o, none⟩) evs.length cap, .int .i64 evs.length, .bool true, .bool true, .slice (some ⟨E, o, none⟩) evs.length cap, .int .i64 j, .pointer (some ⟨E, o + j * 3, none⟩), .pointer (some ⟨E, o + j * 3 + 1, none⟩), .int .i64 evs[j].t, .int .i64 m, .bool false, .bool false, .bool false, undef, undef, undef, undef, undef, undef, undef, .bool false] wr (by decide) (by decide) ?_ ?_
        · intro i hi U hU hK hprev
          have hi' : i < 22 := hi
          rcases (by omega : i = 0 ∨ i = 1 ∨ i = 2 ∨ i = 3 ∨ i = 4 ∨ i = 5 ∨ i = 6 ∨ i = 7 ∨ i = 8 ∨ i = 9 ∨ i = 10 ∨ i = 11 ∨ i = 12 ∨ i = 13 ∨ i = 14 ∨ i = 15 ∨ i = 16 ∨ i = 17 ∨ i = 18 ∨ i = 19 ∨ i = 20 ∨ i = 21) with rfl | rfl | rfl | rfl | rfl | rfl | rfl | rfl | rfl | rfl | rfl | rfl | rfl | rfl | rfl | rfl | rfl | rfl | rfl | rfl | rfl | rfl
          · have hu8 : U[8]?.getD undef = .int .i64 j := kept_of hK 8 (by decide) (by simp [hT, a0, a1, a2, a7, a8])
            refine .inl ⟨want_none rfl, ?_⟩
            refine step_of_run (v := .int .i64 j) (w' := _) ?_ ⟨rfl, _, rfl, (fun h => by cases h), rfl⟩
            simp [execOp, go_sem, hu8, i1, i2, c0, c1, ht']
          · have hu7 : U[7]?.getD undef = .slice (some ⟨E, o, none⟩) evs.length cap := kept_of hK 7 (by decide) (by simp [hT, a0, a1, a2, a7, a8])
            refine .inl ⟨want_none rfl, ?_⟩
            refine step_of_run (v := .slice (some ⟨E, o, none⟩) evs.length cap) (w' := _) ?_ ⟨rfl, _, rfl, (fun h => by cases h), rfl⟩
            simp [execOp, go_sem, hu7, i1, i2, c0, c1, ht']
          · have d1 : U[13]?.getD undef = .slice (some ⟨E, o, none⟩) evs.length cap := slot_of (hprev 1 (by decide)) rfl
            refine .inl ⟨want_none rfl, ?_⟩
            refine step_of_run (v := .int .i64 evs.length) (w' := _) ?_ ⟨rfl, _, rfl, (fun h => by cases h), rfl⟩
            simp [execOp, go_sem, d1, i1, i2, c0, c1, ht']
          · have d0 : U[12]?.getD undef = .int .i64 j := slot_of (hprev 0 (by decide)) rfl
            have d2 : U[14]?.getD undef = .int .i64 evs.length := slot_of (hprev 2 (by decide)) rfl
            refine .inl ⟨want_none rfl, ?_⟩
            refine step_of_run (v := .bool true) (w' := _) ?_ ⟨rfl, _, rfl, (fun h => by cases h), rfl⟩
            simp [execOp, go_sem, d0, d2, i1, i2, c0, c1, ht']
          · have d3 : U[15]?.getD undef = .bool true := slot_of (hprev 3 (by decide)) rfl
            refine .inl ⟨want_none rfl, ?_⟩
            refine step_of_run (v := .bool true) (w' := _) ?_ ⟨rfl, _, rfl, (fun h => by cases h), rfl⟩
            simp [execOp, go_sem, d3, i1, i2, c0, c1, ht']
          · have hu7 : U[7]?.getD undef = .slice (some ⟨E, o, none⟩) evs.length cap := kept_of hK 7 (by decide) (by simp [hT, a0, a1, a2, a7, a8])
            refine .inl ⟨want_of (d := 16) rfl rfl (by omega) (slot_of (hprev 4 (by decide)) rfl), ?_⟩
            refine step_of_run (v := .slice (some ⟨E, o, none⟩) evs.length cap) (w' := _) ?_ ⟨rfl, _, rfl, (fun h => by cases h), rfl⟩
            simp [execOp, go_sem, hu7, i1, i2, c0, c1, ht']
          · have hu8 : U[8]?.getD undef = .int .i64 j := kept_of hK 8 (by decide) (by simp [hT, a0, a1, a2, a7, a8])
            refine .inl ⟨want_of (d := 16) rfl rfl (by omega) (slot_of (hprev 4 (by decide)) rfl), ?_⟩
            refine step_of_run (v := .int .i64 j) (w' := _) ?_ ⟨rfl, _, rfl, (fun h => by cases h), rfl⟩
            simp [execOp, go_sem, hu8, i1, i2, c0, c1, ht']
          · have d5 : U[17]?.getD undef = .slice (some ⟨E, o, none⟩) evs.length cap := slot_of (hprev 5 (by decide)) rfl
            have d6 : U[18]?.getD undef = .int .i64 j := slot_of (hprev 6 (by decide)) rfl
            refine .inl ⟨want_of (d := 16) rfl rfl (by omega) (slot_of (hprev 4 (by decide)) rfl), ?_⟩
            refine step_of_run (v := .pointer (some ⟨E, o + j * 3, none⟩)) (w' := _) ?_ ⟨rfl, _, rfl, (fun h => by cases h), rfl⟩
            simp [execOp, go_sem, d5, d6, i1, i2, c0, c1, ht']
          · have d7 : U[19]?.getD undef = .pointer (some ⟨E, o + j * 3, none⟩) := slot_of (hprev 7 (by decide)) rfl
            refine .inl ⟨want_of (d := 16) rfl rfl (by omega) (slot_of (hprev 4 (by decide)) rfl), ?_⟩
            refine step_of_run (v := .pointer (some ⟨E, o + j * 3 + 1, none⟩)) (w' := _) ?_ ⟨rfl, _, rfl, (fun h => by cases h), rfl⟩
            simp [execOp, go_sem, d7, i1, i2, c0, c1, ht']
          · have d8 : U[20]?.getD undef = .pointer (some ⟨E, o + j * 3 + 1, none⟩) := slot_of (hprev 8 (by decide)) rfl
            refine .inl ⟨want_of (d := 16) rfl rfl (by omega) (slot_of (hprev 4 (by decide)) rfl), ?_⟩
            refine step_of_run (v := .int .i64 evs[j].t) (w' := _) ?_ ⟨rfl, _, rfl, (fun h => by cases h), rfl⟩
            simp [execOp, go_sem, d8, i1, i2, c0, c1, ht']
          · have hu2 : U[2]?.getD undef = .int .i64 m := kept_of hK 2 (by decide) (by simp [hT, a0, a1, a2, a7, a8])
            refine .inl ⟨want_of (d := 16) rfl rfl (by omega) (slot_of (hprev 4 (by decide)) rfl), ?_⟩
            refine step_of_run (v := .int .i64 m) (w' := _) ?_ ⟨rfl, _, rfl, (fun h => by cases h), rfl⟩
            simp [execOp, go_sem, hu2, i1, i2, c0, c1, ht']
          · have d9 : U[21]?.getD undef = .int .i64 evs[j].t := slot_of (hprev 9 (by decide)) rfl
            have d10 : U[22]?.getD undef = .int .i64 m := slot_of (hprev 10 (by decide)) rfl
            refine .inl ⟨want_of (d := 16) rfl rfl (by omega) (slot_of (hprev 4 (by decide)) rfl), ?_⟩
            refine step_of_run (v := .bool false) (w' := _) ?_ ⟨rfl, _, rfl, (fun h => by cases h), rfl⟩
            simp [execOp, go_sem, d9, d10, i1, i2, c0, c1, ht']
          · have d4 : U[16]?.getD undef = .bool true := slot_of (hprev 4 (by decide)) rfl
            have d11 : U[23]?.getD undef = .bool false := slot_of (hprev 11 (by decide)) rfl
            refine .inl ⟨want_none rfl, ?_⟩
            refine step_of_run (v := .bool false) (w' := _) ?_ ⟨rfl, _, rfl, (fun h => by cases h), rfl⟩
            simp [execOp, go_sem, d4, d11, i1, i2, c0, c1, ht']
          · have d12 : U[24]?.getD undef = .bool false := slot_of (hprev 12 (by decide)) rfl
            refine .inl ⟨want_none rfl, ?_⟩
            refine step_of_run (v := .bool false) (w' := _) ?_ ⟨rfl, _, rfl, (fun h => by cases h), rfl⟩
            simp [execOp, go_sem, d12, i1, i2, c0, c1, ht']
          · exact .inr ⟨skip_of (d := 25) rfl rfl (by omega) (slot_of (hprev 13 (by decide)) rfl), rfl⟩
          · exact .inr ⟨skip_of (d := 25) rfl rfl (by omega) (slot_of (hprev 13 (by decide)) rfl), rfl⟩
          · exact .inr ⟨skip_of (d := 25) rfl rfl (by omega) (slot_of (hprev 13 (by decide)) rfl), rfl⟩
          · exact .inr ⟨skip_of (d := 25) rfl rfl (by omega) (slot_of (hprev 13 (by decide)) rfl), rfl⟩
          · exact .inr ⟨skip_of (d := 25) rfl rfl (by omega) (slot_of (hprev 13 (by decide)) rfl), rfl⟩
          · exact .inr ⟨skip_of (d := 25) rfl rfl (by omega) (slot_of (hprev 13 (by decide)) rfl), rfl⟩
          · exact .inr ⟨skip_of (d := 25) rfl rfl (by omega) (slot_of (hprev 13 (by decide)) rfl), rfl⟩
          · have d13 : U[25]?.getD undef = .bool false := slot_of (hprev 13 (by decide)) rfl
            have d20 : U[32]?.getD undef = undef := slot_of (hprev 20 (by decide)) rfl
            refine .inl ⟨want_none rfl, ?_⟩
            refine step_of_run (v := .bool false) (w' := _) ?_ ⟨rfl, _, rfl, (fun h => by cases h), rfl⟩
            simp [execOp, go_sem, d13, d20, i1, i2, c0, c1, ht']
        · intro U hU hK hall2
          have b0 : U[0]'(by omega) = .pointer (some ⟨X, 0, none⟩) := at_of _ (kept_of hK 0 (by decide) (by simp [hT, a0]))
          have b1 : U[1]'(by omega) = .int .i64 q := at_of _ (kept_of hK 1 (by decide) (by simp [hT, a1]))
          have b2 : U[2]'(by omega) = .int .i64 m := at_of _ (kept_of hK 2 (by decide) (by simp [hT, a2]))
          have b7 : U[7]'(by omega) = .slice (some ⟨E, o, none⟩) evs.length cap := at_of _ (kept_of hK 7 (by decide) (by simp [hT, a7]))
          have b8 : U[8]'(by omega) = .int .i64 j := at_of _ (kept_of hK 8 (by decide) (by simp [hT, a8]))
          have b33 : U[33]?.getD undef = .bool false := slot_of (hall2 21 (by decide)) rfl
          clear hall2 hK
          go_wp2_with fail
          refine wp_cond_at false (by simpa [Act.eval] using b33) (fun h => by cases h) (fun h => ?_)
          have hstop : ∀ (h : j < evs.length), Ev.at q m evs[j] = false := fun h => by
            simp [Ev.at, HT.out]
          obtain ⟨htk, hdr⟩ := take_stop evs (Ev.at q m) j (by omega) HALL.out hstop
          have i5 : (0 : Int) ≤ (j : Int) := by omega
          have i6 : (j : Int) ≤ (evs.length : Int) := by omega
          obtain ⟨hEB', hcE⟩ := HCE.out
          have i7 : (evs.length : Int) ≤ (cap : Int) := by omega
          have HTK := hidP htk
          have HDR := hidP hdr
          clear htk hdr hstop
          have hEX : E ≠ X := HXE.out E (by rw [HV.out]; rfl)
          have hcells : ∀ k (hk : k < evs.length), ∀ v, (wr.setCell ⟨X, 0, none⟩ v).cell? ⟨E, o + k * 3, none⟩ = some (.int .i64 evs[k].p) ∧ (wr.setCell ⟨X, 0, none⟩ v).cell? ⟨E, o + k * 3 + 1, none⟩ = some (.int .i64 evs[k].t) ∧ (wr.setCell ⟨X, 0, none⟩ v).cell? ⟨E, o + k * 3 + 2, none⟩ = some (labelV evs[k].l) := fun k hk v => by
            have e : ∀ q, (wr.setCell ⟨X, 0, none⟩ v).cell? ⟨E, q, none⟩ = wr.cell? ⟨E, q, none⟩ := fun q => World.cell?_of_block (w := wr) (a := ⟨E, q, none⟩) (Below.heap_setCell _ _ _ _ hEX)
            rw [e, e, e]
            exact HCE.out.2 k hk
          have HCL := hidP hcells
          clear hcells
          have i8 : ¬ cap = j := by omega
          go_wp2_with fail
          have hcells := fun k hk => HCL.out k hk (.slice (some ⟨E, o + j * 3, none⟩) (evs.length - j) (cap - j))
          refine bodyPost_ret (v := .slice (some ⟨E, o, none⟩) j cap) (by simp [results, Yba.results26, hU]) rfl ⟨_, rfl, ?_, .slice (some ⟨E, o + j * 3, none⟩) (evs.length - j) (cap - j), (HX.out.set 0 _).ext (fun k hk => by simp [show k = 0 by omega]), ?_, ?_, Only.setCell (S := fun b => b = X) Only.refl (p := ⟨X, 0, none⟩) (fun _ => rfl) _⟩
          · rw [← HTK.out]
            exact evs_front E o cap evs j 0 (by omega) hEB hEL (by omega) (by simp [World.setCell]; omega) (fun k hk => hcells k hk)
          · rw [← HDR.out]
            exact evs_back E o cap evs j 0 (by omega) hEB hEL (by omega) (by simp [World.setCell]; omega) (fun k hk => hcells k hk)
          · intro a h
            simp [Value.ownBlock] at h
            subst h
            exact HXE.out E (by rw [HV.out]; rfl)
    · have i3 : ¬ (j : Int) < (evs.length : Int) := by omega
      refine region_plain _ 44 (by simp [hT]) [.int .i64 j, .slice ea evs.length ec, .int .i64 evs.length, .bool false, .bool false, undef, undef, undef, undef, undef, undef, undef, .bool false, .bool false, undef, undef, undef, undef, undef, undef, undef, .bool false] wr (by decide) (by decide) ?_ ?_
      · intro i hi U hU hK hprev
        have hi' : i < 22 := hi
        rcases (by omega : i = 0 ∨ i = 1 ∨ i = 2 ∨ i = 3 ∨ i = 4 ∨ i = 5 ∨ i = 6 ∨ i = 7 ∨ i = 8 ∨ i = 9 ∨ i = 10 ∨ i = 11 ∨ i = 12 ∨ i = 13 ∨ i = 14 ∨ i = 15 ∨ i = 16 ∨ i = 17 ∨ i = 18 ∨ i = 19 ∨ i = 20 ∨ i = 21) with rfl | rfl | rfl | rfl | rfl | rfl | rfl | rfl | rfl | rfl | rfl | rfl | rfl | rfl | rfl | rfl | rfl | rfl | rfl | rfl | rfl | rfl
        · have hu8 : U[8]?.getD undef = .int .i64 j := kept_of hK 8 (by decide) (by simp [hT, a0, a1, a2, a7, a8])
          refine .inl ⟨want_none rfl, ?_⟩
          refine step_of_run (v := .int .i64 j) (w' := _) ?_ ⟨rfl, _, rfl, (fun h => by cases h), rfl⟩
          simp [execOp, go_sem, hu8, i3]
        · have hu7 : U[7]?.getD undef = .slice ea evs.length ec := kept_of hK 7 (by decide) (by simp [hT, a0, a1, a2, a7, a8])
          refine .inl ⟨want_none rfl, ?_⟩
          refine step_of_run (v := .slice ea evs.length ec) (w' := _) ?_ ⟨rfl, _, rfl, (fun h => by cases h), rfl⟩
          simp [execOp, go_sem, hu7, i3]
        · have d1 : U[13]?.getD undef = .slice ea evs.length ec := slot_of (hprev 1 (by decide)) rfl
          refine .inl ⟨want_none rfl, ?_⟩
          refine step_of_run (v := .int .i64 evs.length) (w' := _) ?_ ⟨rfl, _, rfl, (fun h => by cases h), rfl⟩
          simp [execOp, go_sem, d1, i3]
        · have d0 : U[12]?.getD undef = .int .i64 j := slot_of (hprev 0 (by decide)) rfl
          have d2 : U[14]?.getD undef = .int .i64 evs.length := slot_of (hprev 2 (by decide)) rfl
          refine .inl ⟨want_none rfl, ?_⟩
          refine step_of_run (v := .bool false) (w' := _) ?_ ⟨rfl, _, rfl, (fun h => by cases h), rfl⟩
          simp [execOp, go_sem, d0, d2, i3]
        · have d3 : U[15]?.getD undef = .bool false := slot_of (hprev 3 (by decide)) rfl
          refine .inl ⟨want_none rfl, ?_⟩
          refine step_of_run (v := .bool false) (w' := _) ?_ ⟨rfl, _, rfl, (fun h => by cases h), rfl⟩
          simp [execOp, go_sem, d3, i3]
        · exact .inr ⟨skip_of (d := 16) rfl rfl (by omega) (slot_of (hprev 4 (by decide)) rfl), rfl⟩
        · exact .inr ⟨skip_of (d := 16) rfl rfl (by omega) (slot_of (hprev 4 (by decide)) rfl), rfl⟩
        · exact .inr ⟨skip_of (d := 16) rfl rfl (by omega) (slot_of (hprev 4 (by decide)) rfl), rfl⟩
        · exact .inr ⟨skip_of (d := 16) rfl rfl (by omega) (slot_of (hprev 4 (by decide)) rfl), rfl⟩
        · exact .inr ⟨skip_of (d := 16) rfl rfl (by omega) (slot_of (hprev 4 (by decide)) rfl), rfl⟩
        · exact .inr ⟨skip_of (d := 16) rfl rfl (by omega) (slot_of (hprev 4 (by decide)) rfl), rfl⟩
        · exact .inr ⟨skip_of (d := 16) rfl rfl (by omega) (slot_of (hprev 4 (by decide)) rfl), rfl⟩
        · have d4 : U[16]?.getD undef = .bool false := slot_of (hprev 4 (by decide)) rfl
          have d11 : U[23]?.getD undef = undef := slot_of (hprev 11 (by decide)) rfl
          refine .inl ⟨want_none rfl, ?_⟩
          refine step_of_run (v := .bool false) (w' := _) ?_ ⟨rfl, _, rfl, (fun h => by cases h), rfl⟩
          simp [execOp, go_sem, d4, d11, i3]
        · have d12 : U[24]?.getD undef = .bool false := slot_of (hprev 12 (by decide)) rfl
          refine .inl ⟨want_none rfl, ?_⟩
          refine step_of_run (v := .bool false) (w' := _) ?_ ⟨rfl, _, rfl, (fun h => by cases h), rfl⟩
          simp [execOp, go_sem, d12, i3]
        · exact .inr ⟨skip_of (d := 25) rfl rfl (by omega) (slot_of (hprev 13 (by decide)) rfl), rfl⟩
        · exact .inr ⟨skip_of (d := 25) rfl rfl (by omega) (slot_of (hprev 13 (by decide)) rfl), rfl⟩
        · exact .inr ⟨skip_of (d := 25) rfl rfl (by omega) (slot_of (hprev 13 (by decide)) rfl), rfl⟩
        · exact .inr ⟨skip_of (d := 25) rfl rfl (by omega) (slot_of (hprev 13 (by decide)) rfl), rfl⟩
        · exact .inr ⟨skip_of (d := 25) rfl rfl (by omega) (slot_of (hprev 13 (by decide)) rfl), rfl⟩
        · exact .inr ⟨skip_of (d := 25) rfl rfl (by omega) (slot_of (hprev 13 (by decide)) rfl), rfl⟩
        · exact .inr ⟨skip_of (d := 25) rfl rfl (by omega) (slot_of (hprev 13 (by decide)) rfl), rfl⟩
        · have d13 : U[25]?.getD undef = .bool false := slot_of (hprev 13 (by decide)) rfl
          have d20 : U[32]?.getD undef = undef := slot_of (hprev 20 (by decide)) rfl
          refine .inl ⟨want_none rfl, ?_⟩
          refine step_of_run (v := .bool false) (w' := _) ?_ ⟨rfl, _, rfl, (fun h => by cases h), rfl⟩
          simp [execOp, go_sem, d13, d20, i3]
      · intro U hU hK hall2
        have b0 : U[0]'(by omega) = .pointer (some ⟨X, 0, none⟩) := at_of _ (kept_of hK 0 (by decide) (by simp [hT, a0]))
        have b1 : U[1]'(by omega) = .int .i64 q := at_of _ (kept_of hK 1 (by decide) (by simp [hT, a1]))
        have b2 : U[2]'(by omega) = .int .i64 m := at_of _ (kept_of hK 2 (by decide) (by simp [hT, a2]))
        have b7 : U[7]'(by omega) = .slice ea evs.length ec := at_of _ (kept_of hK 7 (by decide) (by simp [hT, a7]))
        have b8 : U[8]'(by omega) = .int .i64 j := at_of _ (kept_of hK 8 (by decide) (by simp [hT, a8]))
        have b33 : U[33]?.getD undef = .bool false := slot_of (hall2 21 (by decide)) rfl
        clear hall2 hK
        go_wp2_with fail
        refine wp_cond_at false (by simpa [Act.eval] using b33) (fun h => by cases h) (fun h => ?_)
        have hstop : ∀ (h : j < evs.length), Ev.at q m evs[j] = false := fun h => by
          exact absurd h hj
        obtain ⟨htk, hdr⟩ := take_stop evs (Ev.at q m) j (by omega) HALL.out hstop
        have i5 : (0 : Int) ≤ (j : Int) := by omega
        have i6 : (j : Int) ≤ (evs.length : Int) := by omega
        rcases HEV.out with ⟨hv, he⟩ | ⟨E, o, cap, hv, hEB, hEL, hcap, hElt, hcE⟩
        · have hj0 : j = 0 := by subst he; simp at hjk; omega
          subst hj0
          rw [hv] at b7
          have HE := hidP he
          have HTK := hidP htk
          have HDR := hidP hdr
          clear he hv htk hdr hstop
          go_wp2_with fail
          refine bodyPost_ret (v := .slice none 0 0) (by simp [results, Yba.results26, hU]) rfl ⟨_, rfl, .inl ⟨rfl, by rw [← HTK.out]; rfl⟩, .slice none 0 0, (HX.out.set 0 _).ext (fun k hk => by simp [show k = 0 by omega]), .inl ⟨rfl, by rw [← HDR.out, HE.out]; rfl⟩, fun a h => by simp [Value.ownBlock] at h, Only.setCell (S := fun b => b = X) Only.refl (p := ⟨X, 0, none⟩) (fun _ => rfl) _⟩
        · rw [hv] at b7
          have HV := hidP hv
          have HCE := hidP hcE
          clear hv hcE
          have i7 : (evs.length : Int) ≤ (cap : Int) := by omega
          have HTK := hidP htk
          have HDR := hidP hdr
          clear htk hdr hstop
          have hEX : E ≠ X := HXE.out E (by rw [HV.out]; rfl)
          have hcells : ∀ k (hk : k < evs.length), ∀ v, (wr.setCell ⟨X, 0, none⟩ v).cell? ⟨E, o + k * 3, none⟩ = some (.int .i64 evs[k].p) ∧ (wr.setCell ⟨X, 0, none⟩ v).cell? ⟨E, o + k * 3 + 1, none⟩ = some (.int .i64 evs[k].t) ∧ (wr.setCell ⟨X, 0, none⟩ v).cell? ⟨E, o + k * 3 + 2, none⟩ = some (labelV evs[k].l) := fun k hk v => by
            have e : ∀ q, (wr.setCell ⟨X, 0, none⟩ v).cell? ⟨E, q, none⟩ = wr.cell? ⟨E, q, none⟩ := fun q => World.cell?_of_block (w := wr) (a := ⟨E, q, none⟩) (Below.heap_setCell _ _ _ _ hEX)
            rw [e, e, e]
            exact HCE.out k hk
          have HCL := hidP hcells
          clear hcells
          by_cases i8 : cap = j
          · subst i8
            go_wp2_with fail
            have hcells := fun k hk => HCL.out k hk (.slice (some ⟨E, o, none⟩) 0 0)
            refine bodyPost_ret (v := .slice (some ⟨E, o, none⟩) cap cap) (by simp [results, Yba.results26, hU]) rfl ⟨_, rfl, ?_, .slice (some ⟨E, o, none⟩) 0 0, (HX.out.set 0 _).ext (fun k hk => by simp [show k = 0 by omega]), ?_, ?_, Only.setCell (S := fun b => b = X) Only.refl (p := ⟨X, 0, none⟩) (fun _ => rfl) _⟩
            · rw [← HTK.out]
              exact evs_front E o cap evs cap 0 (by omega) hEB hEL (by omega) (by simp [World.setCell]; omega) (fun k hk => hcells k hk)
            · rw [← HDR.out]
              exact evs_nil E o evs cap (by omega) hEB hEL (by simp [World.setCell]; omega)
            · intro a h
              simp [Value.ownBlock] at h
              subst h
              exact HXE.out E (by rw [HV.out]; rfl)
          · go_wp2_with fail
            have hcells := fun k hk => HCL.out k hk (.slice (some ⟨E, o + j * 3, none⟩) (evs.length - j) (cap - j))
            refine bodyPost_ret (v := .slice (some ⟨E, o, none⟩) j cap) (by simp [results, Yba.results26, hU]) rfl ⟨_, rfl, ?_, .slice (some ⟨E, o + j * 3, none⟩) (evs.length - j) (cap - j), (HX.out.set 0 _).ext (fun k hk => by simp [show k = 0 by omega]), ?_, ?_, Only.setCell (S := fun b => b = X) Only.refl (p := ⟨X, 0, none⟩) (fun _ => rfl) _⟩
            · rw [← HTK.out]
              exact evs_front E o cap evs j 0 (by omega) hEB hEL (by omega) (by simp [World.setCell]; omega) (fun k hk => hcells k hk)
            · rw [← HDR.out]
              exact evs_back E o cap evs j 0 (by omega) hEB hEL (by omega) (by simp [World.setCell]; omega) (fun k hk => hcells k hk)
            · intro a h
              simp [Value.ownBlock] at h
              subst h
              exact HXE.out E (by rw [HV.out]; rfl)
  · rw [HI.out]
    exact ⟨rfl, 0, by omega, rfl, rfl, rfl, rfl, rfl, rfl, fun e he => by simp at he⟩
end Go.Proofs.Ybulkcawy
