/-
  set's loop over the crashes.
-/
import Derived.Test.YbulkcawySet1
import Derived.Deep.OwnRows
namespace Go.Proofs.Ybulkcawy
open Go.RowKit
set_option linter.unusedSimpArgs false
set_option linter.unusedVariables false
set_option maxRecDepth 100000
set_option maxHeartbeats 4000000

theorem info4 : (Yba.prog.info? 4).map (fun i => (i.zero, i.size, i.bytes)) = some (some (.bool false), 1, 1) := by kernel_rfl
theorem makeBools (n : Nat) (hn : n ≤ 100000) (w : World) : (Instr.makeSlice 92 (.int .i64 (n : Int)) (.int .i64 (n : Int))).run Yba.prog w = .ok (.slice (some ⟨w.heap.size, 0, none⟩) n n) (w.alloc (.cells (madeCells #[.bool false] n) 4)) :=
  run_make_row' (P := Yba.prog) 92 4 (.bool false) 1 (by kernel_rfl) info4 rfl .i64 .i64 n (by omega) (by omega) w

theorem sliceEq92 (w : World) : (Go.binOp .eql 92 (.slice none 0 0) (.slice none 0 0)).run Yba.prog w = .ok (.bool true) w := by kernel_rfl
theorem sliceEq92' (a : Addr) (n c : Nat) (w : World) : (Go.binOp .eql 92 (.slice (some a) n c) (.slice none 0 0)).run Yba.prog w = .ok (.bool false) w := by kernel_rfl

def isF (last q : Nat) (c : Fail) : Bool := decide (c.q = q) && decide (c.r ≤ last)
def crF (last : Nat) (cl : List Fail) (q : Nat) : Nat := match cl.find? (isF last q) with | some c => c.r | none => 0
def reF (last : Nat) (cl : List Fail) (q i : Nat) : Bool := match cl.find? (isF last q) with | some c => c.xs.contains i | none => false
def flF (last : Nat) (cl : List Fail) : List Nat := (cl.filter (fun c => decide (c.r ≤ last))).map Fail.q

theorem find_take (last : Nat) (cl : List Fail) (j : Nat) (hj : j < cl.length) (hp : cl.Pairwise (fun a b => a.q ≠ b.q)) (q : Nat) : (cl.take (j + 1)).find? (isF last q) = if cl[j].q = q ∧ cl[j].r ≤ last then some cl[j] else (cl.take j).find? (isF last q) := by
  have e : cl.take (j + 1) = cl.take j ++ [cl[j]] := by simp
  rw [e, List.find?_append]
  by_cases h : cl[j].q = q ∧ cl[j].r ≤ last
  · rw [if_pos h]
    have h1 : (cl.take j).find? (isF last q) = none := by
      rw [List.find?_eq_none]
      intro x hx
      obtain ⟨i, hi, rfl⟩ := List.mem_take_iff_getElem.1 hx
      have := (List.pairwise_iff_getElem.1 hp) i j (by omega) hj (by omega)
      simp only [isF, Bool.and_eq_true, decide_eq_true_eq, not_and]
      intro h2
      exact absurd (h2.trans h.1.symm) this
    rw [h1]
    simp [isF, h.1, h.2]
  · rw [if_neg h]
    have : [cl[j]].find? (isF last q) = none := by
      simp only [List.find?_cons, List.find?_nil]
      have : isF last q cl[j] = false := by
        rw [isF]
        by_cases h1 : cl[j].q = q
        · have h2 : ¬ cl[j].r ≤ last := fun h2 => h ⟨h1, h2⟩
          simp [h1, h2]
        · simp [h1]
      rw [this]
    rw [this, Option.or_none]
theorem crF_skip (last : Nat) (cl : List Fail) (j : Nat) (hj : j < cl.length) (hp : cl.Pairwise (fun a b => a.q ≠ b.q)) (h : ¬ cl[j].r ≤ last) : crF last (cl.take (j + 1)) = crF last (cl.take j) ∧ reF last (cl.take (j + 1)) = reF last (cl.take j) ∧ flF last (cl.take (j + 1)) = flF last (cl.take j) := by
  refine ⟨?_, ?_, ?_⟩
  · funext q
    unfold crF
    rw [find_take last cl j hj hp, if_neg (fun h' => h h'.2)]
  · funext q i
    unfold reF
    rw [find_take last cl j hj hp, if_neg (fun h' => h h'.2)]
  · unfold flF
    have e : cl.take (j + 1) = cl.take j ++ [cl[j]] := by simp
    rw [e, List.filter_append]
    simp [h]
theorem crF_new (last : Nat) (cl : List Fail) (j : Nat) (hj : j < cl.length) (hp : cl.Pairwise (fun a b => a.q ≠ b.q)) (h : cl[j].r ≤ last) : (crF last (cl.take (j + 1)) = fun q => if q = cl[j].q then cl[j].r else crF last (cl.take j) q) ∧ (reF last (cl.take (j + 1)) = fun q => if q = cl[j].q then (fun i => cl[j].xs.contains i) else reF last (cl.take j) q) ∧ flF last (cl.take (j + 1)) = flF last (cl.take j) ++ [cl[j].q] ∧ crF last (cl.take j) cl[j].q = 0 := by
  refine ⟨?_, ?_, ?_, ?_⟩
  · funext q
    unfold crF
    rw [find_take last cl j hj hp]
    by_cases e : q = cl[j].q
    · rw [if_pos ⟨e.symm, h⟩, if_pos e]
    · rw [if_neg (fun h' => e h'.1.symm), if_neg e]
  · funext q
    by_cases e : q = cl[j].q
    · rw [if_pos e]
      funext i
      unfold reF
      rw [find_take last cl j hj hp, if_pos ⟨e.symm, h⟩]
    · rw [if_neg e]
      funext i
      unfold reF
      rw [find_take last cl j hj hp, if_neg (fun h' => e h'.1.symm)]
  · unfold flF
    have e : cl.take (j + 1) = cl.take j ++ [cl[j]] := by simp
    rw [e, List.filter_append]
    simp [h]
  · unfold crF
    have h1 : (cl.take j).find? (isF last cl[j].q) = none := by
      rw [List.find?_eq_none]
      intro x hx
      obtain ⟨i, hi, rfl⟩ := List.mem_take_iff_getElem.1 hx
      have := (List.pairwise_iff_getElem.1 hp) i j (by omega) hj (by omega)
      simp only [isF, Bool.and_eq_true, decide_eq_true_eq, not_and]
      intro h2
      exact absurd h2 this
    rw [h1]

theorem FailS.some {w : World} {EB : Nat} {v : Value} {fs : List Fail} (h : FailS w EB v fs) {j : Nat} (hj : j < fs.length) : ∃ b cap, v = .slice (some ⟨b, 0, none⟩) fs.length cap ∧ b < EB ∧ b < w.heap.size ∧ w.cell? ⟨b, j * 3, none⟩ = some (.int .i64 fs[j].q) ∧ w.cell? ⟨b, j * 3 + 1, none⟩ = some (.int .i64 fs[j].r) ∧ ∃ ta tc, w.cell? ⟨b, j * 3 + 2, none⟩ = some (.slice ta fs[j].xs.length tc) ∧ IntsS w EB (.slice ta fs[j].xs.length tc) fs[j].xs := by
  rcases h with ⟨_, rfl⟩ | ⟨b, cap, h1, h2, h3, h4⟩
  · simp at hj
  · obtain ⟨a1, a2, tv, a3, a4⟩ := h4 j hj
    obtain ⟨ta, tc, rfl⟩ := a4.form
    exact ⟨b, cap, h1, h2, h3, a1, a2, ta, tc, a3, a4⟩

/-- The blocks that 'set' turns. -/
def SetS (d : SB) (b : Nat) : Prop := b = d.P ∨ b = d.C ∨ b = d.R ∨ b = d.Lo ∨ b = d.LO ∨ d.hi ≤ b

theorem PS.appended {d : SB} {role : Nat → Nat} {w wa w1 : World} {fav : Value} {fl : List Nat} {cr : Nat → Nat} {reV : Nat → Value} {re : Nat → Nat → Bool} {loV : Nat → Value} {lov mm : Nat → Nat} {lo : Nat → Nat → Bool} (h : PS d w fav fl cr reV re loV lov mm lo) (ok : SBok d role) (hwa : Only (fun _ => False) w wa) {g cap q : Nat} (h1 : w1.ownsRow d.hi 3 1 (.slice (some ⟨g, 0, none⟩) (fl.length + 1) cap) (fl.length + 1) (natsV fl ++ [.int .i64 q])) (h2 : wa.grownBy w1 fav.ownBlock) (h3 : fav.ownBlock = some g ∨ w.heap.size ≤ g) :
    PS d (w1.setCell ⟨d.P, d.o + 4, none⟩ (.slice (some ⟨g, 0, none⟩) (fl.length + 1) cap)) (.slice (some ⟨g, 0, none⟩) (fl.length + 1) cap) (fl ++ [q]) cr reV re loV lov mm lo ∧ Only (fun b => b = d.P ∨ fav.ownBlock = some b) w (w1.setCell ⟨d.P, d.o + 4, none⟩ (.slice (some ⟨g, 0, none⟩) (fl.length + 1) cap)) := by
  have ho : Only (fun b => b = d.P ∨ fav.ownBlock = some b) w (w1.setCell ⟨d.P, d.o + 4, none⟩ (.slice (some ⟨g, 0, none⟩) (fl.length + 1) cap)) := Only.setCell (Only.grown (hwa.mono (fun _ _ h => h.elim)) h2 (fun k hk _ => .inr hk)) (fun _ => .inl rfl) _
  have hg := own_block_lt h1 (b := g) rfl
  have hP1 : Row w1 d.P d.tP d.NP (fun k => if k = d.o + 4 then fav else d.mP k) := (h.P.only hwa (fun h => h)).grown h2 (fun e => by have := h.fa_block e.symm; have := ok.bP; omega)
  refine ⟨h.setFa ok ho (fun b hb => ?_) ((hP1.set (d.o + 4) _).ext fun k hk => ?_) ?_, ho⟩
  · injection hb with hb
    subst hb
    exact h3
  · by_cases e : k = d.o + 4
    · simp [e]
    · simp [e]
  · rw [List.length_append, show natsV (fl ++ [q]) = natsV fl ++ [.int .i64 q] by simp [natsV]]
    refine own_of_block h1 fun b hb => Below.heap_setCell _ _ _ _ ?_
    have := own_block_lt h1 hb
    have := ok.bP
    show b ≠ d.P
    omega

theorem set0 (d : SB) (role : Nat → Nat) (ok : SBok d role) (lo0 : Nat → Nat → Bool) (w : World) (hps : PS d w (.slice none 0 0) [] (fun _ => 0) (fun _ => .slice none 0 0) (fun _ _ => false) (fun _ => .slice none 0 0) (fun _ => 0) (fun _ => 0) lo0) (T : Array Value) (Q : Exit → Act → World → Prop) (hT0 : T.size = 236)
    (t0 : T[0]?.getD undef = .pointer (some ⟨d.P, d.o, none⟩)) (t34 : T[34]?.getD undef = d.cv) (t35 : T[35]?.getD undef = .int .i64 d.cl.length) (t36 : T[36]?.getD undef = .int .i64 0)
    (hQ : ∀ T' w' fav reV, Keeps 4 235 [] T T' → PS d w' fav (flF d.last d.cl) (crF d.last d.cl) reV (reF d.last d.cl) (fun _ => .slice none 0 0) (fun _ => 0) (fun _ => 0) lo0 → (∀ q, 1 ≤ q → q ≤ d.n → crF d.last d.cl q ≠ 0 → reV q ≠ .slice none 0 0) → (∀ q, q ≤ d.n → crF d.last d.cl q = 0 → reV q = .slice none 0 0) → (flF d.last d.cl = [] → fav = .slice none 0 0) → Only (SetS d) w w' → Q .normal ⟨T', []⟩ w') : (blkOf Yba.f23 0).wp Yba.prog Q ⟨T, []⟩ w := by
  conv in (blkOf Yba.f23 0) => whnf
  refine wp_block ?_
  have HQ := hidP hQ
  have OK := hidP ok
  have HPS0 := hidP hps
  have hn6 := ok.n6
  have hn1 := ok.n1
  have hcln := ok.cln
  clear hQ ok hps
  obtain ⟨I, hI⟩ : ∃ I : Nat → Array Value → World → Prop, I = (fun k T2 wr => ∃ j, j + k = d.cl.length ∧ Keeps 4 235 [] T T2 ∧ T2[34]?.getD undef = d.cv ∧ T2[35]?.getD undef = .int .i64 d.cl.length ∧ T2[36]?.getD undef = .int .i64 j ∧ ∃ fav reV, PS d wr fav (flF d.last (d.cl.take j)) (crF d.last (d.cl.take j)) reV (reF d.last (d.cl.take j)) (fun _ => .slice none 0 0) (fun _ => 0) (fun _ => 0) lo0 ∧ (∀ q, q ≤ d.n → crF d.last (d.cl.take j) q = 0 → reV q = .slice none 0 0) ∧ (flF d.last (d.cl.take j) = [] → fav = .slice none 0 0) ∧ (∀ q, 1 ≤ q → q ≤ d.n → crF d.last (d.cl.take j) q ≠ 0 → reV q ≠ .slice none 0 0) ∧ Only (SetS d) w wr) := ⟨_, rfl⟩
  have HI := hidP hI
  clear hI
  refine wp_loop_n I ?_ d.cl.length _ _ ?_
  · intro k T2 wr hIk
    rw [HI.out] at hIk
    obtain ⟨j, hjk, hK, u34, u35, u36, fav, reV, hps, hnil, hfe, hnn, ho⟩ := hIk
    have hT : T2.size = 236 := hK.1.trans hT0
    have a34 : T2[34]'(by omega) = _ := at_of _ u34
    have a35 : T2[35]'(by omega) = _ := at_of _ u35
    have a36 : T2[36]'(by omega) = _ := at_of _ u36
    have HK := hidP hK
    have HPS := hidP hps
    have HNIL := hidP hnil
    have HFE := hidP hfe
    have HNN := hidP hnn
    have HO := hidP ho
    clear hK u34 u35 u36 hps hnil hfe hnn ho
    go_upto_if 37 with fail
    refine wp_cond_at (decide (j < d.cl.length)) (by simp [Act.eval, hT]) (fun h => ?_) (fun h => ?_)
    · have hj : j < d.cl.length := of_decide_eq_true h
      clear h
      obtain ⟨c, hce⟩ : ∃ c, c = d.cl[j] := ⟨_, rfl⟩
      obtain ⟨B, cap, e1, e2, e3, e4, e5, ta, tc, e6, e7⟩ := HPS.out.cs.some hj
      rw [← hce] at e4 e5 e6 e7
      obtain ⟨hq1, hqn, hr1, hr100, hxl, hxi⟩ := OK.out.clq c (by rw [hce]; exact List.getElem_mem hj)
      rw [e1] at a34
      have i0a : (0 : Int) ≤ (j : Int) := by omega
      have i0b : (j : Int) < (d.cl.length : Int) := by omega
      have HCE := hidP hce
      have HE1 := hidP e1
      have HE7 := hidP e7
      have HXI := hidP hxi
      refine gen_frame (fun U => U.size = 236 ∧ Keeps 4 235 [] T U ∧ U[34]?.getD undef = .slice (some ⟨B, 0, none⟩) d.cl.length cap ∧ U[35]?.getD undef = .int .i64 d.cl.length ∧ U[36]?.getD undef = .int .i64 j) ⟨by simp [hT], ?_, by simp [hT, a34], by simp [hT, a35], by simp [hT, a36]⟩ ?_
      · repeat (refine Keeps.put ?_ _ _ (by first | exact .inr ⟨by decide, by decide⟩ | exact .inl (by decide)))
        exact HK.out
      rintro U ⟨hU, hKU, u34, u35, u36⟩
      have b34 : U[34]'(by omega) = _ := at_of _ u34
      have b35 : U[35]'(by omega) = _ := at_of _ u35
      have b36 : U[36]'(by omega) = _ := at_of _ u36
      have HKU := hidP hKU
      clear hKU u34 u35 u36 a34 a35 a36 hT hce e1 e7 hxi
      obtain ⟨cb, hcb⟩ : ∃ cb, cb = wr.heap.size := ⟨_, rfl⟩
      have HCB := hidP hcb
      go_upto_region 7 with fail
      have hrow : Row (wr.alloc (.cells #[.int .i64 c.q, .int .i64 c.r, .slice ta c.xs.length tc] 32)) wr.heap.size 32 3 (fun k => if k = 0 then .int .i64 c.q else if k = 1 then .int .i64 c.r else .slice ta c.xs.length tc) := by
        refine (Row.newL wr [.int .i64 c.q, .int .i64 c.r, .slice ta c.xs.length tc] 32).ext fun x hx => ?_
        have hx' : x < 3 := hx
        rcases (by omega : x = 0 ∨ x = 1 ∨ x = 2) with rfl | rfl | rfl <;> simp
      have hon : Only (fun _ => False) wr (wr.alloc (.cells #[.int .i64 c.q, .int .i64 c.r, .slice ta c.xs.length tc] 32)) := Only.refl.alloc _
      refine gen_both (fun U w' => U.size = 236 ∧ Keeps 4 235 [] T U ∧ U[5]?.getD undef = .pointer (some ⟨wr.heap.size, 0, none⟩) ∧ U[34]?.getD undef = .slice (some ⟨B, 0, none⟩) d.cl.length cap ∧ U[35]?.getD undef = .int .i64 d.cl.length ∧ U[36]?.getD undef = .int .i64 j ∧ Row w' wr.heap.size 32 3 (fun k => if k = 0 then .int .i64 c.q else if k = 1 then .int .i64 c.r else .slice ta c.xs.length tc) ∧ Only (fun _ => False) wr w') ⟨by simp [hU], ?_, by simp [hU], by simp [hU, b34], by simp [hU, b35], by simp [hU, b36], hrow, hon⟩ ?_
      · repeat (refine Keeps.put ?_ _ _ (by first | exact .inr ⟨by decide, by decide⟩ | exact .inl (by decide)))
        exact HKU.out
      clear hrow hon b34 b35 b36 HKU hU
      clear U
      rintro U w1a ⟨hU, hKU, u5, u34, u35, u36, hrow, hon⟩
      have hcb' := HCB.out
      rw [← hcb'] at u5 hrow
      have hps1 := HPS.out.same OK.out hon
      have HPS1 := hidP hps1
      have HROW := hidP hrow
      have HON := hidP hon
      have HKU := hidP hKU
      have u0 := hKU.get t0 (by decide) (by decide)
      have cR1 : w1a.cell? ⟨cb, 1, none⟩ = some (.int .i64 c.r) := hrow.cell 1 (by omega)
      have cP0 : w1a.cell? ⟨d.P, d.o, none⟩ = some (.int .i64 d.last) := by have := hps1.P.cell d.o (by have := OK.out.o5; omega); rwa [if_neg (by omega), OK.out.m0] at this
      clear hKU hps1 hrow hon hcb hcb' e4 e5 e6 i0a i0b
      refine region_chain (by kernel_rfl) _ 236 hU [some (.pointer (some ⟨cb, 1, none⟩)), some (.int .i64 c.r), some (.pointer (some ⟨d.P, d.o, none⟩)), some (.pointer (some ⟨d.P, d.o, none⟩)), some (.pointer (some ⟨d.P, d.o, none⟩)), some (.int .i64 d.last), some (.bool (decide (d.last < c.r)))] [] (fun _ w1 => w1 = w1a.drew) (by decide) (by decide) (by decide) (by decide) (by decide) (by decide) ?_ ?_ ?_ rfl
      · intro i hi U vs w1 hia hU hK hSt hanc hdep
        have hw1 : w1 = w1a.drew := hSt
        subst hw1
        have q1 : w1a.drew.cell? ⟨cb, 1, none⟩ = some (.int .i64 c.r) := cR1
        have q2 : w1a.drew.cell? ⟨d.P, d.o, none⟩ = some (.int .i64 d.last) := cP0
        have hi' : i < 7 := hi
        rcases (by omega : i = 0 ∨ i = 1 ∨ i = 2 ∨ i = 3 ∨ i = 4 ∨ i = 5 ∨ i = 6) with rfl | rfl | rfl | rfl | rfl | rfl | rfl
        · have hx5 : U[5]?.getD undef = .pointer (some ⟨cb, 0, none⟩) := kept_of hK 5 (by decide) (by assumption)
          refine step_of_run (v := .pointer (some ⟨cb, 1, none⟩)) (w' := _) ?_ ⟨rfl, _, rfl, (fun h => by cases h), rfl⟩
          simp [execOp, go_sem, hx5, q1, q2]
        · have d0 : U[40]?.getD undef = .pointer (some ⟨cb, 1, none⟩) := slot_of (chain_of (hdep ⟨0, .data⟩ (by simp) rfl (by decide)) rfl) rfl
          refine step_of_run (v := .int .i64 c.r) (w' := _) ?_ ⟨rfl, _, rfl, (fun h => by cases h), rfl⟩
          simp [execOp, go_sem, d0, q1, q2]
        · have hx0 : U[0]?.getD undef = .pointer (some ⟨d.P, d.o, none⟩) := kept_of hK 0 (by decide) (by assumption)
          refine step_of_run (v := .pointer (some ⟨d.P, d.o, none⟩)) (w' := _) ?_ ⟨rfl, _, rfl, (fun h => by cases h), rfl⟩
          simp [execOp, go_sem, hx0, q1, q2]
        · have d2 : U[42]?.getD undef = .pointer (some ⟨d.P, d.o, none⟩) := slot_of (chain_of (hdep ⟨2, .data⟩ (by simp) rfl (by decide)) rfl) rfl
          refine step_of_run (v := .pointer (some ⟨d.P, d.o, none⟩)) (w' := _) ?_ ⟨rfl, _, rfl, (fun h => by cases h), rfl⟩
          simp [execOp, go_sem, d2, q1, q2]
        · have d3 : U[43]?.getD undef = .pointer (some ⟨d.P, d.o, none⟩) := slot_of (chain_of (hdep ⟨3, .data⟩ (by simp) rfl (by decide)) rfl) rfl
          refine step_of_run (v := .pointer (some ⟨d.P, d.o, none⟩)) (w' := _) ?_ ⟨rfl, _, rfl, (fun h => by cases h), rfl⟩
          simp [execOp, go_sem, d3, q1, q2]
        · have d4 : U[44]?.getD undef = .pointer (some ⟨d.P, d.o, none⟩) := slot_of (chain_of (hdep ⟨4, .data⟩ (by simp) rfl (by decide)) rfl) rfl
          refine step_of_run (v := .int .i64 d.last) (w' := _) ?_ ⟨rfl, _, rfl, (fun h => by cases h), rfl⟩
          simp [execOp, go_sem, d4, q1, q2]
        · have d1 : U[41]?.getD undef = .int .i64 c.r := slot_of (chain_of (hdep ⟨1, .data⟩ (by simp) rfl (by decide)) rfl) rfl
          have d5 : U[45]?.getD undef = .int .i64 d.last := slot_of (chain_of (hdep ⟨5, .data⟩ (by simp) rfl (by decide)) rfl) rfl
          refine step_of_run (v := .bool (decide (d.last < c.r))) (w' := _) ?_ ⟨rfl, _, rfl, (fun h => by cases h), rfl⟩
          simp [execOp, go_sem, d1, d5, q1, q2]
      · intro j hj hi U vs w1 hlen hU hK hSt hdep hprev
        have hj' : j < 0 := hj
        omega
      · intro V vs w2 hV hKV hlen2 hSt hval hall
        have hw2 : w2 = w1a.drew := hSt
        have b46 : V[46]?.getD undef = .bool (decide (d.last < c.r)) := slot_of (chain_of (hall 6 (by decide) (by decide)) rfl) rfl
        have hKV2 := Keeps.trans HKU.out (Kept.keeps (lo := 4) (hi := 235) (vs := []) hKV (hV.trans hU.symm) (by decide))
        have d5 : V[5]'(by omega) = .pointer (some ⟨cb, 0, none⟩) := at_of _ (kept_of hKV 5 (by decide) u5)
        have d34 : V[34]'(by omega) = .slice (some ⟨B, 0, none⟩) d.cl.length cap := at_of _ (kept_of hKV 34 (by decide) u34)
        have d35 : V[35]'(by omega) = .int .i64 d.cl.length := at_of _ (kept_of hKV 35 (by decide) u35)
        have d36 : V[36]'(by omega) = .int .i64 j := at_of _ (kept_of hKV 36 (by decide) u36)
        have hod : Only (fun _ => False) w1a w2 := by rw [hw2]; exact Only.refl.drew
        have HPS2 := hidP (HPS1.out.same OK.out hod)
        have HROW2 := hidP (HROW.out.only hod (fun h => h))
        have HR2 : Hid (Only (SetS d) wr w2) := hidP ((HON.out.trans hod).mono (fun _ _ h => h.elim))
        have HKV := hidP hKV2
        have hz2 : wr.heap.size < w2.heap.size := by have := HROW2.out.lt; have := HCB.out; omega
        clear hKV hSt hval hall hKV2 u0 u5 u34 u35 u36 cR1 cP0 hod hw2
        go_upto_if 46 with fail
        refine wp_cond_at (decide (d.last < c.r)) (by simpa [Act.eval] using b46) (fun h => ?_) (fun h => ?_)
        · have hrl : ¬ c.r ≤ d.last := by have := of_decide_eq_true h; omega
          clear h b46
          go_wp2_with fail
          first | refine ⟨trivial, k - 1, by omega, ?_⟩ | refine ⟨k - 1, by omega, ?_⟩
          rw [HI.out]
          have hce := HCE.out
          rw [hce] at hrl
          obtain ⟨s1, s2, s3⟩ := crF_skip d.last d.cl j hj OK.out.cld hrl
          refine ⟨j + 1, by omega, ?_, by simp [hV, d34, HE1.out], by simp [hV, d35], by simp [hV], fav, reV, ?_, ?_, ?_, ?_, HO.out.trans HR2.out⟩
          · repeat (refine Keeps.put ?_ _ _ (by first | exact .inr ⟨by decide, by decide⟩ | exact .inl (by decide)))
            exact HKV.out
          · rw [s1, s2, s3]
            exact HPS2.out
          · rw [s1]
            exact HNIL.out
          · rw [s3]
            exact HFE.out
          · rw [s1]
            exact HNN.out
        · have hrl : c.r ≤ d.last := by have := of_decide_eq_false h; omega
          clear h b46
          have cR0 : w2.cell? ⟨cb, 0, none⟩ = some (.int .i64 c.q) := HROW2.out.cell 0 (by omega)
          go_upto_region 9 with fail
          refine gen_frame (fun V => V.size = 236 ∧ Keeps 4 235 [] T V ∧ V[5]?.getD undef = .pointer (some ⟨cb, 0, none⟩) ∧ V[6]?.getD undef = .int .i64 c.q ∧ V[34]?.getD undef = .slice (some ⟨B, 0, none⟩) d.cl.length cap ∧ V[35]?.getD undef = .int .i64 d.cl.length ∧ V[36]?.getD undef = .int .i64 j) ⟨by simp [hV], ?_, by simp [hV, d5], by simp [hV], by simp [hV, d34], by simp [hV, d35], by simp [hV, d36]⟩ ?_
          · repeat (refine Keeps.put ?_ _ _ (by first | exact .inr ⟨by decide, by decide⟩ | exact .inl (by decide)))
            exact HKV.out
          clear d5 d34 d35 d36 HKV cR0 hV
          clear V
          rintro V ⟨hV, hKV, v5, v6, v34, v35, v36⟩
          have v0 := hKV.get t0 (by decide) (by decide)
          have HKV := hidP hKV
          have cR1 : w2.cell? ⟨cb, 1, none⟩ = some (.int .i64 c.r) := HROW2.out.cell 1 (by omega)
          have cP1 : w2.cell? ⟨d.P, d.o + 1, none⟩ = some (.slice (some ⟨d.C, 0, none⟩) (d.n + 1) (d.n + 1)) := by have := HPS2.out.P.cell (d.o + 1) (by have := OK.out.o5; omega); rwa [if_neg (by omega), OK.out.m1] at this
          have i1 : (0 : Int) ≤ (c.q : Int) := by omega
          have i2 : (c.q : Int) < (d.n : Int) + 1 := by omega
          have cC := HPS2.out.C.cell c.q (by omega)
          have fC := HPS2.out.C.frozen c.q
          clear hKV
          refine region_chain (by kernel_rfl) _ 236 hV [some (.pointer (some ⟨d.P, d.o, none⟩)), some (.pointer (some ⟨d.P, d.o, none⟩)), some (.pointer (some ⟨d.P, d.o + 1, none⟩)), some (.slice (some ⟨d.C, 0, none⟩) (d.n + 1) (d.n + 1)), some (.int .i64 c.q), some (.pointer (some ⟨cb, 1, none⟩)), some (.int .i64 c.r), none, none] [7, 8] (fun vs w1 => match vs with | [] => w1 = w2.drew | [v] => v = .pointer (some ⟨d.C, c.q, none⟩) ∧ w1 = w2.drew | _ => w1 = w2.drew.setCell ⟨d.C, c.q, none⟩ (.int .i64 c.r)) (by decide) (by decide) (by decide) (by decide) (by decide) (by decide) ?_ ?_ ?_ rfl
          · intro i hi U vs w1 hia hU hK hSt hanc hdep
            have hi' : i < 9 := hi
            rcases (by omega : i = 0 ∨ i = 1 ∨ i = 2 ∨ i = 3 ∨ i = 4 ∨ i = 5 ∨ i = 6 ∨ i = 7 ∨ i = 8) with rfl | rfl | rfl | rfl | rfl | rfl | rfl | rfl | rfl
            · have hvl := hanc 1 (by decide) (by decide)
              have hw1 : w1 = w2.drew := by
                match vs, hSt, hvl with
                | [], h, _ => exact h
                | [v], h, _ => exact h.2
              subst hw1
              have q1 : w2.drew.cell? ⟨cb, 1, none⟩ = some (.int .i64 c.r) := cR1
              have q2 : w2.drew.cell? ⟨d.P, d.o + 1, none⟩ = some (.slice (some ⟨d.C, 0, none⟩) (d.n + 1) (d.n + 1)) := cP1
              have hx0 : U[0]?.getD undef = .pointer (some ⟨d.P, d.o, none⟩) := kept_of hK 0 (by decide) (by assumption)
              refine step_of_run (v := .pointer (some ⟨d.P, d.o, none⟩)) (w' := _) ?_ ⟨rfl, _, rfl, (fun h => by cases h), rfl⟩
              simp [execOp, go_sem, hx0, q1, q2, i1, i2]
            · have hvl := hanc 1 (by decide) (by decide)
              have hw1 : w1 = w2.drew := by
                match vs, hSt, hvl with
                | [], h, _ => exact h
                | [v], h, _ => exact h.2
              subst hw1
              have q1 : w2.drew.cell? ⟨cb, 1, none⟩ = some (.int .i64 c.r) := cR1
              have q2 : w2.drew.cell? ⟨d.P, d.o + 1, none⟩ = some (.slice (some ⟨d.C, 0, none⟩) (d.n + 1) (d.n + 1)) := cP1
              have d0 : U[49]?.getD undef = .pointer (some ⟨d.P, d.o, none⟩) := slot_of (chain_of (hdep ⟨0, .data⟩ (by simp) rfl (by decide)) rfl) rfl
              refine step_of_run (v := .pointer (some ⟨d.P, d.o, none⟩)) (w' := _) ?_ ⟨rfl, _, rfl, (fun h => by cases h), rfl⟩
              simp [execOp, go_sem, d0, q1, q2, i1, i2]
            · have hvl := hanc 1 (by decide) (by decide)
              have hw1 : w1 = w2.drew := by
                match vs, hSt, hvl with
                | [], h, _ => exact h
                | [v], h, _ => exact h.2
              subst hw1
              have q1 : w2.drew.cell? ⟨cb, 1, none⟩ = some (.int .i64 c.r) := cR1
              have q2 : w2.drew.cell? ⟨d.P, d.o + 1, none⟩ = some (.slice (some ⟨d.C, 0, none⟩) (d.n + 1) (d.n + 1)) := cP1
              have d1 : U[50]?.getD undef = .pointer (some ⟨d.P, d.o, none⟩) := slot_of (chain_of (hdep ⟨1, .data⟩ (by simp) rfl (by decide)) rfl) rfl
              refine step_of_run (v := .pointer (some ⟨d.P, d.o + 1, none⟩)) (w' := _) ?_ ⟨rfl, _, rfl, (fun h => by cases h), rfl⟩
              simp [execOp, go_sem, d1, q1, q2, i1, i2]
            · have hvl := hanc 1 (by decide) (by decide)
              have hw1 : w1 = w2.drew := by
                match vs, hSt, hvl with
                | [], h, _ => exact h
                | [v], h, _ => exact h.2
              subst hw1
              have q1 : w2.drew.cell? ⟨cb, 1, none⟩ = some (.int .i64 c.r) := cR1
              have q2 : w2.drew.cell? ⟨d.P, d.o + 1, none⟩ = some (.slice (some ⟨d.C, 0, none⟩) (d.n + 1) (d.n + 1)) := cP1
              have d2 : U[51]?.getD undef = .pointer (some ⟨d.P, d.o + 1, none⟩) := slot_of (chain_of (hdep ⟨2, .data⟩ (by simp) rfl (by decide)) rfl) rfl
              refine step_of_run (v := .slice (some ⟨d.C, 0, none⟩) (d.n + 1) (d.n + 1)) (w' := _) ?_ ⟨rfl, _, rfl, (fun h => by cases h), rfl⟩
              simp [execOp, go_sem, d2, q1, q2, i1, i2]
            · have hvl := hanc 1 (by decide) (by decide)
              have hw1 : w1 = w2.drew := by
                match vs, hSt, hvl with
                | [], h, _ => exact h
                | [v], h, _ => exact h.2
              subst hw1
              have q1 : w2.drew.cell? ⟨cb, 1, none⟩ = some (.int .i64 c.r) := cR1
              have q2 : w2.drew.cell? ⟨d.P, d.o + 1, none⟩ = some (.slice (some ⟨d.C, 0, none⟩) (d.n + 1) (d.n + 1)) := cP1
              have hx6 : U[6]?.getD undef = .int .i64 c.q := kept_of hK 6 (by decide) (by assumption)
              refine step_of_run (v := .int .i64 c.q) (w' := _) ?_ ⟨rfl, _, rfl, (fun h => by cases h), rfl⟩
              simp [execOp, go_sem, hx6, q1, q2, i1, i2]
            · have hvl := hanc 1 (by decide) (by decide)
              have hw1 : w1 = w2.drew := by
                match vs, hSt, hvl with
                | [], h, _ => exact h
                | [v], h, _ => exact h.2
              subst hw1
              have q1 : w2.drew.cell? ⟨cb, 1, none⟩ = some (.int .i64 c.r) := cR1
              have q2 : w2.drew.cell? ⟨d.P, d.o + 1, none⟩ = some (.slice (some ⟨d.C, 0, none⟩) (d.n + 1) (d.n + 1)) := cP1
              have hx5 : U[5]?.getD undef = .pointer (some ⟨cb, 0, none⟩) := kept_of hK 5 (by decide) (by assumption)
              refine step_of_run (v := .pointer (some ⟨cb, 1, none⟩)) (w' := _) ?_ ⟨rfl, _, rfl, (fun h => by cases h), rfl⟩
              simp [execOp, go_sem, hx5, q1, q2, i1, i2]
            · have hvl := hanc 1 (by decide) (by decide)
              have hw1 : w1 = w2.drew := by
                match vs, hSt, hvl with
                | [], h, _ => exact h
                | [v], h, _ => exact h.2
              subst hw1
              have q1 : w2.drew.cell? ⟨cb, 1, none⟩ = some (.int .i64 c.r) := cR1
              have q2 : w2.drew.cell? ⟨d.P, d.o + 1, none⟩ = some (.slice (some ⟨d.C, 0, none⟩) (d.n + 1) (d.n + 1)) := cP1
              have d5 : U[54]?.getD undef = .pointer (some ⟨cb, 1, none⟩) := slot_of (chain_of (hdep ⟨5, .data⟩ (by simp) rfl (by decide)) rfl) rfl
              refine step_of_run (v := .int .i64 c.r) (w' := _) ?_ ⟨rfl, _, rfl, (fun h => by cases h), rfl⟩
              simp [execOp, go_sem, d5, q1, q2, i1, i2]
            · exact absurd (by decide) hia
            · exact absurd (by decide) hia
          · intro j hj hi U vs w1 hlen hU hK hSt hdep hprev
            have hj' : j < 2 := hj
            rcases (by omega : j = 0 ∨ j = 1) with rfl | rfl
            · obtain rfl : vs = [] := List.eq_nil_of_length_eq_zero hlen
              have d3 : U[52]?.getD undef = .slice (some ⟨d.C, 0, none⟩) (d.n + 1) (d.n + 1) := slot_of (chain_of (hdep ⟨3, .data⟩ (by simp) rfl (by decide)) rfl) rfl
              have d4 : U[53]?.getD undef = .int .i64 c.q := slot_of (chain_of (hdep ⟨4, .data⟩ (by simp) rfl (by decide)) rfl) rfl
              have hw1 : w1 = w2.drew := hSt
              subst hw1
              refine step_of_run (v := .pointer (some ⟨d.C, c.q, none⟩)) (w' := w2.drew) ?_ ⟨_, rfl, (fun h => by cases h), rfl, rfl⟩
              simp [execOp, go_sem, i1, i2, d3, d4]
            · obtain ⟨v0, rfl⟩ : ∃ v0, vs = [v0] := by
                match vs, hlen with | [v0], _ => exact ⟨v0, rfl⟩
              have p0 : U[56]?.getD undef = v0 := slot_of (hprev 0 (by decide)) rfl
              have d6 : U[55]?.getD undef = .int .i64 c.r := slot_of (chain_of (hdep ⟨6, .data⟩ (by simp) rfl (by decide)) rfl) rfl
              obtain ⟨rfl, rfl⟩ := hSt
              have q4 : w2.drew.cell? ⟨d.C, c.q, none⟩ = some _ := cC
              have q5 : w2.drew.frozen? ⟨d.C, c.q, none⟩ = false := fC
              refine step_of_skip (w' := w2.drew.setCell ⟨d.C, c.q, none⟩ (.int .i64 c.r)) ?_ ⟨undef, rfl, (fun _ => rfl), rfl⟩
              simp [execOp, go_sem, d6, p0] at q4 q5 ⊢
              simp [q4, q5]
          · intro W vs w3 hW hKW hlen3 hSt hval hall
            have hw3 : w3 = w2.drew.setCell ⟨d.C, c.q, none⟩ (.int .i64 c.r) := by
              match vs, hlen3, hSt with
              | [_, _], _, h => exact h
            have ho3 : Only (fun b => b = d.C) w2 w3 := by rw [hw3]; exact Only.setCell (S := fun b => b = d.C) Only.refl.drew (p := ⟨d.C, c.q, none⟩) (fun _ => rfl) _
            have hps3 := HPS2.out.setC (cr' := fun q => if q = c.q then c.r else crF d.last (d.cl.take j) q) OK.out ho3 (by
              rw [hw3]
              refine (HPS2.out.C.drew.set c.q _).ext fun x hx => ?_
              by_cases e : x = c.q <;> simp [e])
            have HPS3 := hidP hps3
            have HROW3 := hidP (HROW2.out.only ho3 (fun e => by have := HCB.out; have := OK.out.bC; have := HPS.out.sz; omega))
            have HR3 := hidP (HR2.out.trans' ho3 (fun b _ e => .inr (.inl e)))
            have hz3 : wr.heap.size < w3.heap.size := by have := ho3.size; omega
            have hKW2 := Keeps.trans HKV.out (Kept.keeps (lo := 4) (hi := 235) (vs := []) hKW (hW.trans hV.symm) (by decide))
            have HKW := hidP hKW2
            have d0 := hKW2.at' hW 0 (by decide) t0 (by decide) (by decide)
            have d5 : W[5]'(by omega) = .pointer (some ⟨cb, 0, none⟩) := at_of _ (kept_of hKW 5 (by decide) v5)
            have d6 : W[6]'(by omega) = .int .i64 c.q := at_of _ (kept_of hKW 6 (by decide) v6)
            have d34 : W[34]'(by omega) = .slice (some ⟨B, 0, none⟩) d.cl.length cap := at_of _ (kept_of hKW 34 (by decide) v34)
            have d35 : W[35]'(by omega) = .int .i64 d.cl.length := at_of _ (kept_of hKW 35 (by decide) v35)
            have d36 : W[36]'(by omega) = .int .i64 j := at_of _ (kept_of hKW 36 (by decide) v36)
            have cP4 : w3.cell? ⟨d.P, d.o + 4, none⟩ = some fav := by have := hps3.P.cell (d.o + 4) (by have := OK.out.o5; omega); rwa [if_pos rfl] at this
            obtain ⟨i0, hi0, hz0, hz1, hz2⟩ := info_parts info3'
            have hfl : (flF d.last (d.cl.take j)).length ≤ 1000 := by
              unfold flF
              rw [List.length_map]
              exact Nat.le_trans (List.length_filter_le _ _) (by rw [List.length_take]; omega)
            obtain ⟨fl, hfle⟩ : ∃ fl, fl = flF d.last (d.cl.take j) := ⟨_, rfl⟩
            rw [← hfle] at hfl
            have HFLE := hidP hfle
            have hsz3 := hps3.sz
            clear hKW hSt hval hall hps3 hw3 ho3 hKW2 v0 v5 v6 v34 v35 v36 cR1 cP1 cC fC hfle
            go_wp2_with (at_builtin; refine wpList_append_lies _ rfl _ _ 29 rfl d.hi 3 i0 (.int .i64 0) 1 8 Yba.underlying29 hi0 hz0 hz1 hz2 rfl (by decide) fav fl.length (natsV fl) (by simp [Act.eval, hW]) ?c1 ⟨w3.heap.size, 0, none⟩ 1 1 [.int .i64 c.q] (by simp [Act.eval, hW]) rfl ?c2 (by simp [Value.oneCell']) (by decide) (by show _ ≤ 9223372036854775807; omega) (by omega) ?c3 (w3.heap.size + 1) ?c4 ?_)
            case c1 => exact (by rw [HFLE.out]; exact HPS3.out.fa.alloc _)
            case c3 => first | omega | (simp; omega)
            intro gg cp w4a hown1 hgrow hat hlt
            have hgg : fav.ownBlock = some gg ∨ w3.heap.size ≤ gg := by
              rcases hat with h | h
              · exact .inl h
              · exact .inr (by omega)
            have hps3 := HPS3.out
            rw [← HFLE.out] at hps3
            obtain ⟨M1, M2⟩ := hps3.appended OK.out (Only.refl.alloc _) hown1 hgrow hgg
            have hP1 : Row w4a d.P d.tP d.NP (fun k => if k = d.o + 4 then fav else d.mP k) := (hps3.P.alloc _).grown hgrow (fun e => by have := hps3.fa_block e.symm; have := OK.out.bP; omega)
            have cP4' : w4a.cell? ⟨d.P, d.o + 4, none⟩ = some fav := by have := hP1.cell (d.o + 4) (by have := OK.out.o5; omega); rwa [if_pos rfl] at this
            have fP4' := hP1.frozen (d.o + 4)
            obtain ⟨w4, hw4⟩ : ∃ w4, w4a.setCell ⟨d.P, d.o + 4, none⟩ (.slice (some ⟨gg, 0, none⟩) (fl.length + 1) cp) = w4 := ⟨_, rfl⟩
            obtain ⟨fav4, hfav4⟩ : ∃ fav4, fav4 = Value.slice (some ⟨gg, 0, none⟩) (fl.length + 1) cp := ⟨_, rfl⟩
            rw [hw4, ← hfav4] at M1
            rw [hw4] at M2
            have HPS4 := hidP M1
            have hz4 : w3.heap.size ≤ w4.heap.size := M2.size
            have HROW4 := hidP (HROW3.out.only M2 (fun e => by
              rcases e with e | e
              · have := HCB.out; have := OK.out.bP; have := HPS.out.sz; omega
              · have h5 := HPS.out.fa_block e
                have := HCB.out
                omega))
            have HR4 := hidP (HR3.out.trans' M2 (fun b _ e => by
              rcases e with e | e
              · exact .inl e
              · exact .inr (.inr (.inr (.inr (.inr (hps3.fa_block e).1))))))
            have cP2 : w4.cell? ⟨d.P, d.o + 2, none⟩ = some (.slice (some ⟨d.R, 0, none⟩) (d.n + 1) (d.n + 1)) := by have := M1.P.cell (d.o + 2) (by have := OK.out.o5; omega); rwa [if_neg (by omega), OK.out.m2] at this
            have hce := HCE.out
            have hnew := crF_new d.last d.cl j hj OK.out.cld (by rw [← hce]; exact hrl)
            rw [← hce] at hnew
            have cRn : w4.cell? ⟨d.R, c.q, none⟩ = some (.slice none 0 0) := by have := M1.R.cell c.q (by omega); rwa [HNIL.out c.q hqn hnew.2.2.2] at this
            have HNEW := hidP hnew
            clear hown1 hgrow hat hlt hgg hps3 M1 M2 hP1 hce hnew hfav4
            have heq := sliceEq92
            go_upto_if 74 with fail
            refine wp_cond_at true (by simp [Act.eval, hW]) (fun _ => ?_) (fun h => by cases h)
            refine gen_frame (fun V => V.size = 236 ∧ Keeps 4 235 [] T V ∧ V[5]?.getD undef = .pointer (some ⟨cb, 0, none⟩) ∧ V[6]?.getD undef = .int .i64 c.q ∧ V[34]?.getD undef = .slice (some ⟨B, 0, none⟩) d.cl.length cap ∧ V[35]?.getD undef = .int .i64 d.cl.length ∧ V[36]?.getD undef = .int .i64 j) ⟨by simp [hW], ?_, by simp [hW, d5], by simp [hW, d6], by simp [hW, d34], by simp [hW, d35], by simp [hW, d36]⟩ ?_
            · repeat (refine Keeps.put ?_ _ _ (by first | exact .inr ⟨by decide, by decide⟩ | exact .inl (by decide)))
              exact HKW.out
            clear d0 d5 d6 d34 d35 d36 HKW cP2 cRn cP4 cP4' fP4' hw4 hW
            clear W
            rintro W ⟨hW, hKW, v5, v6, v34, v35, v36⟩
            have v0 := hKW.get t0 (by decide) (by decide)
            have HKW := hidP hKW
            have mk1 := fun w => makeBools (d.n + 1) (by omega) w
            simp only [Int.natCast_add, Int.natCast_one] at mk1
            clear hKW
            refine region_chain (by kernel_rfl) _ 236 hW [some (.pointer (some ⟨d.P, d.o, none⟩)), some (.pointer (some ⟨d.P, d.o, none⟩)), some (.pointer (some ⟨d.P, d.o + 2, none⟩)), some (.slice (some ⟨d.R, 0, none⟩) (d.n + 1) (d.n + 1)), some (.int .i64 c.q), some (.pointer (some ⟨d.P, d.o, none⟩)), some (.pointer (some ⟨d.P, d.o, none⟩)), some (.pointer (some ⟨d.P, d.o + 1, none⟩)), some (.slice (some ⟨d.C, 0, none⟩) (d.n + 1) (d.n + 1)), some (.int .i64 ((d.n : Int) + 1)), none, none, none] [10, 11, 12] (fun vs w1 => match vs with | [] => w1 = w4.drew | [v] => v = .slice (some ⟨w4.heap.size, 0, none⟩) (d.n + 1) (d.n + 1) ∧ w1 = w4.drew.alloc (.cells (madeCells #[.bool false] (d.n + 1)) 4) | [v, u] => v = .slice (some ⟨w4.heap.size, 0, none⟩) (d.n + 1) (d.n + 1) ∧ u = .pointer (some ⟨d.R, c.q, none⟩) ∧ w1 = w4.drew.alloc (.cells (madeCells #[.bool false] (d.n + 1)) 4) | _ => w1 = (w4.drew.alloc (.cells (madeCells #[.bool false] (d.n + 1)) 4)).setCell ⟨d.R, c.q, none⟩ (.slice (some ⟨w4.heap.size, 0, none⟩) (d.n + 1) (d.n + 1))) (by decide) (by decide) (by decide) (by decide) (by decide) (by decide) ?_ ?_ ?_ rfl
            · intro i hi U vs w1 hia hU hK hSt hanc hdep
              have hi' : i < 13 := hi
              rcases (by omega : i = 0 ∨ i = 1 ∨ i = 2 ∨ i = 3 ∨ i = 4 ∨ i = 5 ∨ i = 6 ∨ i = 7 ∨ i = 8 ∨ i = 9 ∨ i = 10 ∨ i = 11 ∨ i = 12) with rfl | rfl | rfl | rfl | rfl | rfl | rfl | rfl | rfl | rfl | rfl | rfl | rfl
              · have hvl := hanc 2 (by decide) (by decide)
                have hr1 : Row w1 d.P d.tP d.NP (fun k => if k = d.o + 4 then fav4 else d.mP k) := by
                  match vs, hSt, hvl with
                  | [], h, _ => exact (show w1 = w4.drew from h) ▸ HPS4.out.P.drew
                  | [v], h, _ => exact h.2 ▸ HPS4.out.P.drew.alloc _
                  | [v, u], h, _ => exact h.2.2 ▸ HPS4.out.P.drew.alloc _
                have q1 : w1.cell? ⟨d.P, d.o + 1, none⟩ = some (.slice (some ⟨d.C, 0, none⟩) (d.n + 1) (d.n + 1)) := by have := hr1.cell (d.o + 1) (by have := OK.out.o5; omega); rwa [if_neg (by omega), OK.out.m1] at this
                have q2 : w1.cell? ⟨d.P, d.o + 2, none⟩ = some (.slice (some ⟨d.R, 0, none⟩) (d.n + 1) (d.n + 1)) := by have := hr1.cell (d.o + 2) (by have := OK.out.o5; omega); rwa [if_neg (by omega), OK.out.m2] at this
                have hx0 : U[0]?.getD undef = .pointer (some ⟨d.P, d.o, none⟩) := kept_of hK 0 (by decide) (by assumption)
                refine step_of_run (v := .pointer (some ⟨d.P, d.o, none⟩)) (w' := _) ?_ ⟨rfl, _, rfl, (fun h => by cases h), rfl⟩
                simp [execOp, go_sem, hx0, q1, q2, i1, i2]
              · have hvl := hanc 2 (by decide) (by decide)
                have hr1 : Row w1 d.P d.tP d.NP (fun k => if k = d.o + 4 then fav4 else d.mP k) := by
                  match vs, hSt, hvl with
                  | [], h, _ => exact (show w1 = w4.drew from h) ▸ HPS4.out.P.drew
                  | [v], h, _ => exact h.2 ▸ HPS4.out.P.drew.alloc _
                  | [v, u], h, _ => exact h.2.2 ▸ HPS4.out.P.drew.alloc _
                have q1 : w1.cell? ⟨d.P, d.o + 1, none⟩ = some (.slice (some ⟨d.C, 0, none⟩) (d.n + 1) (d.n + 1)) := by have := hr1.cell (d.o + 1) (by have := OK.out.o5; omega); rwa [if_neg (by omega), OK.out.m1] at this
                have q2 : w1.cell? ⟨d.P, d.o + 2, none⟩ = some (.slice (some ⟨d.R, 0, none⟩) (d.n + 1) (d.n + 1)) := by have := hr1.cell (d.o + 2) (by have := OK.out.o5; omega); rwa [if_neg (by omega), OK.out.m2] at this
                have d0 : U[75]?.getD undef = .pointer (some ⟨d.P, d.o, none⟩) := slot_of (chain_of (hdep ⟨0, .data⟩ (by simp) rfl (by decide)) rfl) rfl
                refine step_of_run (v := .pointer (some ⟨d.P, d.o, none⟩)) (w' := _) ?_ ⟨rfl, _, rfl, (fun h => by cases h), rfl⟩
                simp [execOp, go_sem, d0, q1, q2, i1, i2]
              · have hvl := hanc 2 (by decide) (by decide)
                have hr1 : Row w1 d.P d.tP d.NP (fun k => if k = d.o + 4 then fav4 else d.mP k) := by
                  match vs, hSt, hvl with
                  | [], h, _ => exact (show w1 = w4.drew from h) ▸ HPS4.out.P.drew
                  | [v], h, _ => exact h.2 ▸ HPS4.out.P.drew.alloc _
                  | [v, u], h, _ => exact h.2.2 ▸ HPS4.out.P.drew.alloc _
                have q1 : w1.cell? ⟨d.P, d.o + 1, none⟩ = some (.slice (some ⟨d.C, 0, none⟩) (d.n + 1) (d.n + 1)) := by have := hr1.cell (d.o + 1) (by have := OK.out.o5; omega); rwa [if_neg (by omega), OK.out.m1] at this
                have q2 : w1.cell? ⟨d.P, d.o + 2, none⟩ = some (.slice (some ⟨d.R, 0, none⟩) (d.n + 1) (d.n + 1)) := by have := hr1.cell (d.o + 2) (by have := OK.out.o5; omega); rwa [if_neg (by omega), OK.out.m2] at this
                have d1 : U[76]?.getD undef = .pointer (some ⟨d.P, d.o, none⟩) := slot_of (chain_of (hdep ⟨1, .data⟩ (by simp) rfl (by decide)) rfl) rfl
                refine step_of_run (v := .pointer (some ⟨d.P, d.o + 2, none⟩)) (w' := _) ?_ ⟨rfl, _, rfl, (fun h => by cases h), rfl⟩
                simp [execOp, go_sem, d1, q1, q2, i1, i2]
              · have hvl := hanc 2 (by decide) (by decide)
                have hr1 : Row w1 d.P d.tP d.NP (fun k => if k = d.o + 4 then fav4 else d.mP k) := by
                  match vs, hSt, hvl with
                  | [], h, _ => exact (show w1 = w4.drew from h) ▸ HPS4.out.P.drew
                  | [v], h, _ => exact h.2 ▸ HPS4.out.P.drew.alloc _
                  | [v, u], h, _ => exact h.2.2 ▸ HPS4.out.P.drew.alloc _
                have q1 : w1.cell? ⟨d.P, d.o + 1, none⟩ = some (.slice (some ⟨d.C, 0, none⟩) (d.n + 1) (d.n + 1)) := by have := hr1.cell (d.o + 1) (by have := OK.out.o5; omega); rwa [if_neg (by omega), OK.out.m1] at this
                have q2 : w1.cell? ⟨d.P, d.o + 2, none⟩ = some (.slice (some ⟨d.R, 0, none⟩) (d.n + 1) (d.n + 1)) := by have := hr1.cell (d.o + 2) (by have := OK.out.o5; omega); rwa [if_neg (by omega), OK.out.m2] at this
                have d2 : U[77]?.getD undef = .pointer (some ⟨d.P, d.o + 2, none⟩) := slot_of (chain_of (hdep ⟨2, .data⟩ (by simp) rfl (by decide)) rfl) rfl
                refine step_of_run (v := .slice (some ⟨d.R, 0, none⟩) (d.n + 1) (d.n + 1)) (w' := _) ?_ ⟨rfl, _, rfl, (fun h => by cases h), rfl⟩
                simp [execOp, go_sem, d2, q1, q2, i1, i2]
              · have hvl := hanc 2 (by decide) (by decide)
                have hr1 : Row w1 d.P d.tP d.NP (fun k => if k = d.o + 4 then fav4 else d.mP k) := by
                  match vs, hSt, hvl with
                  | [], h, _ => exact (show w1 = w4.drew from h) ▸ HPS4.out.P.drew
                  | [v], h, _ => exact h.2 ▸ HPS4.out.P.drew.alloc _
                  | [v, u], h, _ => exact h.2.2 ▸ HPS4.out.P.drew.alloc _
                have q1 : w1.cell? ⟨d.P, d.o + 1, none⟩ = some (.slice (some ⟨d.C, 0, none⟩) (d.n + 1) (d.n + 1)) := by have := hr1.cell (d.o + 1) (by have := OK.out.o5; omega); rwa [if_neg (by omega), OK.out.m1] at this
                have q2 : w1.cell? ⟨d.P, d.o + 2, none⟩ = some (.slice (some ⟨d.R, 0, none⟩) (d.n + 1) (d.n + 1)) := by have := hr1.cell (d.o + 2) (by have := OK.out.o5; omega); rwa [if_neg (by omega), OK.out.m2] at this
                have hx6 : U[6]?.getD undef = .int .i64 c.q := kept_of hK 6 (by decide) (by assumption)
                refine step_of_run (v := .int .i64 c.q) (w' := _) ?_ ⟨rfl, _, rfl, (fun h => by cases h), rfl⟩
                simp [execOp, go_sem, hx6, q1, q2, i1, i2]
              · have hvl := hanc 2 (by decide) (by decide)
                have hr1 : Row w1 d.P d.tP d.NP (fun k => if k = d.o + 4 then fav4 else d.mP k) := by
                  match vs, hSt, hvl with
                  | [], h, _ => exact (show w1 = w4.drew from h) ▸ HPS4.out.P.drew
                  | [v], h, _ => exact h.2 ▸ HPS4.out.P.drew.alloc _
                  | [v, u], h, _ => exact h.2.2 ▸ HPS4.out.P.drew.alloc _
                have q1 : w1.cell? ⟨d.P, d.o + 1, none⟩ = some (.slice (some ⟨d.C, 0, none⟩) (d.n + 1) (d.n + 1)) := by have := hr1.cell (d.o + 1) (by have := OK.out.o5; omega); rwa [if_neg (by omega), OK.out.m1] at this
                have q2 : w1.cell? ⟨d.P, d.o + 2, none⟩ = some (.slice (some ⟨d.R, 0, none⟩) (d.n + 1) (d.n + 1)) := by have := hr1.cell (d.o + 2) (by have := OK.out.o5; omega); rwa [if_neg (by omega), OK.out.m2] at this
                have hx0 : U[0]?.getD undef = .pointer (some ⟨d.P, d.o, none⟩) := kept_of hK 0 (by decide) (by assumption)
                refine step_of_run (v := .pointer (some ⟨d.P, d.o, none⟩)) (w' := _) ?_ ⟨rfl, _, rfl, (fun h => by cases h), rfl⟩
                simp [execOp, go_sem, hx0, q1, q2, i1, i2]
              · have hvl := hanc 2 (by decide) (by decide)
                have hr1 : Row w1 d.P d.tP d.NP (fun k => if k = d.o + 4 then fav4 else d.mP k) := by
                  match vs, hSt, hvl with
                  | [], h, _ => exact (show w1 = w4.drew from h) ▸ HPS4.out.P.drew
                  | [v], h, _ => exact h.2 ▸ HPS4.out.P.drew.alloc _
                  | [v, u], h, _ => exact h.2.2 ▸ HPS4.out.P.drew.alloc _
                have q1 : w1.cell? ⟨d.P, d.o + 1, none⟩ = some (.slice (some ⟨d.C, 0, none⟩) (d.n + 1) (d.n + 1)) := by have := hr1.cell (d.o + 1) (by have := OK.out.o5; omega); rwa [if_neg (by omega), OK.out.m1] at this
                have q2 : w1.cell? ⟨d.P, d.o + 2, none⟩ = some (.slice (some ⟨d.R, 0, none⟩) (d.n + 1) (d.n + 1)) := by have := hr1.cell (d.o + 2) (by have := OK.out.o5; omega); rwa [if_neg (by omega), OK.out.m2] at this
                have d5 : U[80]?.getD undef = .pointer (some ⟨d.P, d.o, none⟩) := slot_of (chain_of (hdep ⟨5, .data⟩ (by simp) rfl (by decide)) rfl) rfl
                refine step_of_run (v := .pointer (some ⟨d.P, d.o, none⟩)) (w' := _) ?_ ⟨rfl, _, rfl, (fun h => by cases h), rfl⟩
                simp [execOp, go_sem, d5, q1, q2, i1, i2]
              · have hvl := hanc 2 (by decide) (by decide)
                have hr1 : Row w1 d.P d.tP d.NP (fun k => if k = d.o + 4 then fav4 else d.mP k) := by
                  match vs, hSt, hvl with
                  | [], h, _ => exact (show w1 = w4.drew from h) ▸ HPS4.out.P.drew
                  | [v], h, _ => exact h.2 ▸ HPS4.out.P.drew.alloc _
                  | [v, u], h, _ => exact h.2.2 ▸ HPS4.out.P.drew.alloc _
                have q1 : w1.cell? ⟨d.P, d.o + 1, none⟩ = some (.slice (some ⟨d.C, 0, none⟩) (d.n + 1) (d.n + 1)) := by have := hr1.cell (d.o + 1) (by have := OK.out.o5; omega); rwa [if_neg (by omega), OK.out.m1] at this
                have q2 : w1.cell? ⟨d.P, d.o + 2, none⟩ = some (.slice (some ⟨d.R, 0, none⟩) (d.n + 1) (d.n + 1)) := by have := hr1.cell (d.o + 2) (by have := OK.out.o5; omega); rwa [if_neg (by omega), OK.out.m2] at this
                have d6 : U[81]?.getD undef = .pointer (some ⟨d.P, d.o, none⟩) := slot_of (chain_of (hdep ⟨6, .data⟩ (by simp) rfl (by decide)) rfl) rfl
                refine step_of_run (v := .pointer (some ⟨d.P, d.o + 1, none⟩)) (w' := _) ?_ ⟨rfl, _, rfl, (fun h => by cases h), rfl⟩
                simp [execOp, go_sem, d6, q1, q2, i1, i2]
              · have hvl := hanc 2 (by decide) (by decide)
                have hr1 : Row w1 d.P d.tP d.NP (fun k => if k = d.o + 4 then fav4 else d.mP k) := by
                  match vs, hSt, hvl with
                  | [], h, _ => exact (show w1 = w4.drew from h) ▸ HPS4.out.P.drew
                  | [v], h, _ => exact h.2 ▸ HPS4.out.P.drew.alloc _
                  | [v, u], h, _ => exact h.2.2 ▸ HPS4.out.P.drew.alloc _
                have q1 : w1.cell? ⟨d.P, d.o + 1, none⟩ = some (.slice (some ⟨d.C, 0, none⟩) (d.n + 1) (d.n + 1)) := by have := hr1.cell (d.o + 1) (by have := OK.out.o5; omega); rwa [if_neg (by omega), OK.out.m1] at this
                have q2 : w1.cell? ⟨d.P, d.o + 2, none⟩ = some (.slice (some ⟨d.R, 0, none⟩) (d.n + 1) (d.n + 1)) := by have := hr1.cell (d.o + 2) (by have := OK.out.o5; omega); rwa [if_neg (by omega), OK.out.m2] at this
                have d7 : U[82]?.getD undef = .pointer (some ⟨d.P, d.o + 1, none⟩) := slot_of (chain_of (hdep ⟨7, .data⟩ (by simp) rfl (by decide)) rfl) rfl
                refine step_of_run (v := .slice (some ⟨d.C, 0, none⟩) (d.n + 1) (d.n + 1)) (w' := _) ?_ ⟨rfl, _, rfl, (fun h => by cases h), rfl⟩
                simp [execOp, go_sem, d7, q1, q2, i1, i2]
              · have hvl := hanc 2 (by decide) (by decide)
                have hr1 : Row w1 d.P d.tP d.NP (fun k => if k = d.o + 4 then fav4 else d.mP k) := by
                  match vs, hSt, hvl with
                  | [], h, _ => exact (show w1 = w4.drew from h) ▸ HPS4.out.P.drew
                  | [v], h, _ => exact h.2 ▸ HPS4.out.P.drew.alloc _
                  | [v, u], h, _ => exact h.2.2 ▸ HPS4.out.P.drew.alloc _
                have q1 : w1.cell? ⟨d.P, d.o + 1, none⟩ = some (.slice (some ⟨d.C, 0, none⟩) (d.n + 1) (d.n + 1)) := by have := hr1.cell (d.o + 1) (by have := OK.out.o5; omega); rwa [if_neg (by omega), OK.out.m1] at this
                have q2 : w1.cell? ⟨d.P, d.o + 2, none⟩ = some (.slice (some ⟨d.R, 0, none⟩) (d.n + 1) (d.n + 1)) := by have := hr1.cell (d.o + 2) (by have := OK.out.o5; omega); rwa [if_neg (by omega), OK.out.m2] at this
                have d8 : U[83]?.getD undef = .slice (some ⟨d.C, 0, none⟩) (d.n + 1) (d.n + 1) := slot_of (chain_of (hdep ⟨8, .data⟩ (by simp) rfl (by decide)) rfl) rfl
                refine step_of_run (v := .int .i64 ((d.n : Int) + 1)) (w' := _) ?_ ⟨rfl, _, rfl, (fun h => by cases h), rfl⟩
                simp [execOp, go_sem, d8, q1, q2, i1, i2]
              · exact absurd (by decide) hia
              · exact absurd (by decide) hia
              · exact absurd (by decide) hia
            · intro j hj hi U vs w1 hlen hU hK hSt hdep hprev
              have hj' : j < 3 := hj
              rcases (by omega : j = 0 ∨ j = 1 ∨ j = 2) with rfl | rfl | rfl
              · obtain rfl : vs = [] := List.eq_nil_of_length_eq_zero hlen
                have d9 : U[84]?.getD undef = .int .i64 ((d.n : Int) + 1) := slot_of (chain_of (hdep ⟨9, .data⟩ (by simp) rfl (by decide)) rfl) rfl
                have d9 : U[84]?.getD undef = .int .i64 ((d.n : Int) + 1) := slot_of (chain_of (hdep ⟨9, .data⟩ (by simp) rfl (by decide)) rfl) rfl
                have hw1 : w1 = w4.drew := hSt
                subst hw1
                refine step_of_run (v := .slice (some ⟨w4.heap.size, 0, none⟩) (d.n + 1) (d.n + 1)) (w' := w4.drew.alloc (.cells (madeCells #[.bool false] (d.n + 1)) 4)) ?_ ⟨_, rfl, (fun h => by cases h), rfl, rfl⟩
                simp [execOp, go_sem, mk1, d9, d9]
              · obtain ⟨v0, rfl⟩ : ∃ v0, vs = [v0] := by
                  match vs, hlen with | [v0], _ => exact ⟨v0, rfl⟩
                have p0 : U[85]?.getD undef = v0 := slot_of (hprev 0 (by decide)) rfl
                have d3 : U[78]?.getD undef = .slice (some ⟨d.R, 0, none⟩) (d.n + 1) (d.n + 1) := slot_of (chain_of (hdep ⟨3, .data⟩ (by simp) rfl (by decide)) rfl) rfl
                have d4 : U[79]?.getD undef = .int .i64 c.q := slot_of (chain_of (hdep ⟨4, .data⟩ (by simp) rfl (by decide)) rfl) rfl
                obtain ⟨rfl, rfl⟩ := hSt
                refine step_of_run (v := .pointer (some ⟨d.R, c.q, none⟩)) (w' := w4.drew.alloc (.cells (madeCells #[.bool false] (d.n + 1)) 4)) ?_ ⟨_, rfl, (fun h => by cases h), rfl, rfl, rfl⟩
                simp [execOp, go_sem, i1, i2, d3, d4, p0]
              · obtain ⟨v0, v1, rfl⟩ : ∃ v0 v1, vs = [v0, v1] := by
                  match vs, hlen with | [v0, v1], _ => exact ⟨v0, v1, rfl⟩
                have p0 : U[85]?.getD undef = v0 := slot_of (hprev 0 (by decide)) rfl
                have p1 : U[86]?.getD undef = v1 := slot_of (hprev 1 (by decide)) rfl
                obtain ⟨rfl, rfl, rfl⟩ := hSt
                have hR4 : Row (w4.drew.alloc (.cells (madeCells #[.bool false] (d.n + 1)) 4)) d.R 92 (d.n + 1) reV := HPS4.out.R.drew.alloc _
                have q4 := hR4.cell c.q (by omega)
                have q5 := hR4.frozen c.q
                refine step_of_skip (w' := (w4.drew.alloc (.cells (madeCells #[.bool false] (d.n + 1)) 4)).setCell ⟨d.R, c.q, none⟩ (.slice (some ⟨w4.heap.size, 0, none⟩) (d.n + 1) (d.n + 1))) ?_ ⟨undef, rfl, (fun _ => rfl), rfl⟩
                simp [execOp, go_sem, p0, p1] at q4 q5 ⊢
                simp [q4, q5]
            · intro X vs w5 hX hKX hlen5 hSt hval hall
              have hw5 : w5 = (w4.drew.alloc (.cells (madeCells #[.bool false] (d.n + 1)) 4)).setCell ⟨d.R, c.q, none⟩ (.slice (some ⟨w4.heap.size, 0, none⟩) (d.n + 1) (d.n + 1)) := by
                match vs, hlen5, hSt with
                | [_, _, _], _, h => exact h
              obtain ⟨b, hbe⟩ : ∃ b, b = w4.heap.size := ⟨_, rfl⟩
              have hRb : d.R ≠ b := by have := HPS4.out.R.lt; omega
              have hPb : d.P ≠ b := by have := HPS4.out.P.lt; omega
              have hb5 : Row w5 b 4 (d.n + 1) (fun _ => .bool false) := by
                rw [hw5, hbe]
                exact (Row.made w4.drew (.bool false) 4 (d.n + 1)).far _ _ (by rw [hbe] at hRb; exact Ne.symm hRb)
              have hR5 : Row w5 d.R 92 (d.n + 1) (fun k => if k = c.q then .slice (some ⟨b, 0, none⟩) (d.n + 1) (d.n + 1) else reV k) := by
                rw [hw5, hbe]
                exact (HPS4.out.R.drew.alloc _).set c.q _
              have ho5 : Only (fun x => x = d.R) w4 w5 := by rw [hw5]; exact Only.setCell (S := fun x => x = d.R) (Only.refl.drew.alloc _) (p := ⟨d.R, c.q, none⟩) (fun _ => rfl) _
              have hP5 : Row w5 d.P d.tP d.NP (fun k => if k = d.o + 4 then fav4 else d.mP k) := HPS4.out.P.only ho5 (fun e => by have := OK.out.P; rw [e, OK.out.R] at this; cases this)
              have q1 : w5.cell? ⟨d.P, d.o + 2, none⟩ = some (.slice (some ⟨d.R, 0, none⟩) (d.n + 1) (d.n + 1)) := by have := hP5.cell (d.o + 2) (by have := OK.out.o5; omega); rwa [if_neg (by omega), OK.out.m2] at this
              have q2 : w5.cell? ⟨d.R, c.q, none⟩ = some (.slice (some ⟨b, 0, none⟩) (d.n + 1) (d.n + 1)) := by have := hR5.cell c.q (by omega); rwa [if_pos rfl] at this
              have HB5 := hidP hb5
              have HRR5 := hidP hR5
              have HO5 := hidP ho5
              have HR5 := hidP (HR4.out.trans' ho5 (fun b _ e => .inr (.inr (.inl e))))
              have hrowcb : Row w5 cb 32 3 (fun k => if k = 0 then .int .i64 c.q else if k = 1 then .int .i64 c.r else .slice ta c.xs.length tc) := HROW4.out.only ho5 (fun e => by have := HCB.out; have := OK.out.bR; have := HPS.out.sz; omega)
              have HCB5 := hidP hrowcb
              have hKX2 := Keeps.trans HKW.out (Kept.keeps (lo := 4) (hi := 235) (vs := []) hKX (hX.trans hW.symm) (by decide))
              have HKX := hidP hKX2
              have x0 := hKX2.get t0 (by decide) (by decide)
              have x5 : X[5]?.getD undef = .pointer (some ⟨cb, 0, none⟩) := kept_of hKX 5 (by decide) v5
              have x6 : X[6]?.getD undef = .int .i64 c.q := kept_of hKX 6 (by decide) v6
              have x34 : X[34]?.getD undef = .slice (some ⟨B, 0, none⟩) d.cl.length cap := kept_of hKX 34 (by decide) v34
              have x35 : X[35]?.getD undef = .int .i64 d.cl.length := kept_of hKX 35 (by decide) v35
              have x36 : X[36]?.getD undef = .int .i64 j := kept_of hKX 36 (by decide) v36
              have HBE := hidP hbe
              clear hKX hSt hval hall hKX2 v0 v5 v6 v34 v35 v36 hb5 hR5 ho5 hP5 hrowcb hw5 hbe
              go_upto_region 13 with fail
              refine region_plainW _ 236 hX [.pointer (some ⟨d.P, d.o, none⟩), .pointer (some ⟨d.P, d.o, none⟩), .pointer (some ⟨d.P, d.o + 2, none⟩), .slice (some ⟨d.R, 0, none⟩) (d.n + 1) (d.n + 1), .int .i64 c.q, .pointer (some ⟨d.R, c.q, none⟩), .slice (some ⟨b, 0, none⟩) (d.n + 1) (d.n + 1), undef] (fun i w1 => if i ≤ 7 then w1 = w5 else (Row w1 b 4 (d.n + 1) (fun _ => .bool false) ∧ Only (fun x => x = b) w5 w1)) w5 rfl (by decide) (by decide) ?_ ?_
              · intro i hi U w1 hSt hU hK hprev
                have hi' : i < 8 := hi
                rcases (by omega : i = 0 ∨ i = 1 ∨ i = 2 ∨ i = 3 ∨ i = 4 ∨ i = 5 ∨ i = 6 ∨ i = 7) with rfl | rfl | rfl | rfl | rfl | rfl | rfl | rfl
                · have hw1 : w1 = w5 := hSt
                  subst hw1
                  have hx0 : U[0]?.getD undef = .pointer (some ⟨d.P, d.o, none⟩) := kept_of hK 0 (by decide) (by assumption)
                  refine .inl ⟨want_none rfl, ?_⟩
                  refine step_of_run (v := .pointer (some ⟨d.P, d.o, none⟩)) (w' := _) ?_ ⟨rfl, _, rfl, (fun h => by cases h), rfl⟩
                  simp [execOp, go_sem, hx0, q1, q2, i1, i2]
                · have hw1 : w1 = w5 := hSt
                  subst hw1
                  have d0 : U[87]?.getD undef = .pointer (some ⟨d.P, d.o, none⟩) := slot_of (hprev 0 (by decide)) rfl
                  refine .inl ⟨want_none rfl, ?_⟩
                  refine step_of_run (v := .pointer (some ⟨d.P, d.o, none⟩)) (w' := _) ?_ ⟨rfl, _, rfl, (fun h => by cases h), rfl⟩
                  simp [execOp, go_sem, d0, q1, q2, i1, i2]
                · have hw1 : w1 = w5 := hSt
                  subst hw1
                  have d1 : U[88]?.getD undef = .pointer (some ⟨d.P, d.o, none⟩) := slot_of (hprev 1 (by decide)) rfl
                  refine .inl ⟨want_none rfl, ?_⟩
                  refine step_of_run (v := .pointer (some ⟨d.P, d.o + 2, none⟩)) (w' := _) ?_ ⟨rfl, _, rfl, (fun h => by cases h), rfl⟩
                  simp [execOp, go_sem, d1, q1, q2, i1, i2]
                · have hw1 : w1 = w5 := hSt
                  subst hw1
                  have d2 : U[89]?.getD undef = .pointer (some ⟨d.P, d.o + 2, none⟩) := slot_of (hprev 2 (by decide)) rfl
                  refine .inl ⟨want_none rfl, ?_⟩
                  refine step_of_run (v := .slice (some ⟨d.R, 0, none⟩) (d.n + 1) (d.n + 1)) (w' := _) ?_ ⟨rfl, _, rfl, (fun h => by cases h), rfl⟩
                  simp [execOp, go_sem, d2, q1, q2, i1, i2]
                · have hw1 : w1 = w5 := hSt
                  subst hw1
                  have hx6 : U[6]?.getD undef = .int .i64 c.q := kept_of hK 6 (by decide) (by assumption)
                  refine .inl ⟨want_none rfl, ?_⟩
                  refine step_of_run (v := .int .i64 c.q) (w' := _) ?_ ⟨rfl, _, rfl, (fun h => by cases h), rfl⟩
                  simp [execOp, go_sem, hx6, q1, q2, i1, i2]
                · have hw1 : w1 = w5 := hSt
                  subst hw1
                  have d3 : U[90]?.getD undef = .slice (some ⟨d.R, 0, none⟩) (d.n + 1) (d.n + 1) := slot_of (hprev 3 (by decide)) rfl
                  have d4 : U[91]?.getD undef = .int .i64 c.q := slot_of (hprev 4 (by decide)) rfl
                  refine .inl ⟨want_none rfl, ?_⟩
                  refine step_of_run (v := .pointer (some ⟨d.R, c.q, none⟩)) (w' := _) ?_ ⟨rfl, _, rfl, (fun h => by cases h), rfl⟩
                  simp [execOp, go_sem, d3, d4, q1, q2, i1, i2]
                · have hw1 : w1 = w5 := hSt
                  subst hw1
                  have d5 : U[92]?.getD undef = .pointer (some ⟨d.R, c.q, none⟩) := slot_of (hprev 5 (by decide)) rfl
                  refine .inl ⟨want_none rfl, ?_⟩
                  refine step_of_run (v := .slice (some ⟨b, 0, none⟩) (d.n + 1) (d.n + 1)) (w' := _) ?_ ⟨rfl, _, rfl, (fun h => by cases h), rfl⟩
                  simp [execOp, go_sem, d5, q1, q2, i1, i2]
                · have hw1 : w1 = w5 := hSt
                  subst hw1
                  have d6 : U[93]?.getD undef = .slice (some ⟨b, 0, none⟩) (d.n + 1) (d.n + 1) := slot_of (hprev 6 (by decide)) rfl
                  refine .inl ⟨want_none rfl, ?_⟩
                  obtain ⟨w9, hc1, hc2, hc3⟩ := clearBools w1 b (d.n + 1) (d.n + 1) 0 (by omega) _ HB5.out
                  refine step_of_run (v := .tuple #[]) (w' := w9) ?_ ⟨⟨hc2, hc3⟩, undef, rfl, (fun _ => rfl), rfl⟩
                  simp [execOp, go_sem, d6, hc1]
              · intro Y w6 hSt hY hKY hall
                obtain ⟨hb6, ho6⟩ : Row w6 b 4 (d.n + 1) (fun _ => .bool false) ∧ Only (fun x => x = b) w5 w6 := hSt
                have hcbb : cb ≠ b := by have := HCB.out; have := HBE.out; omega
                have hrow6 : Row w6 cb 32 3 (fun k => if k = 0 then .int .i64 c.q else if k = 1 then .int .i64 c.r else .slice ta c.xs.length tc) := HCB5.out.only ho6 hcbb
                have c62 : w6.cell? ⟨cb, 2, none⟩ = some (.slice ta c.xs.length tc) := hrow6.cell 2 (by omega)
                have hKY2 := Keeps.trans HKX.out (Kept.keeps (lo := 4) (hi := 235) (vs := []) hKY (hY.trans hX.symm) (by decide))
                have HKY := hidP hKY2
                have y0 := hKY2.get t0 (by decide) (by decide)
                have y5 : Y[5]'(by omega) = .pointer (some ⟨cb, 0, none⟩) := at_of _ (kept_of hKY 5 (by decide) x5)
                have y6 : Y[6]?.getD undef = .int .i64 c.q := kept_of hKY 6 (by decide) x6
                have y34 : Y[34]?.getD undef = .slice (some ⟨B, 0, none⟩) d.cl.length cap := kept_of hKY 34 (by decide) x34
                have y35 : Y[35]?.getD undef = .int .i64 d.cl.length := kept_of hKY 35 (by decide) x35
                have y36 : Y[36]?.getD undef = .int .i64 j := kept_of hKY 36 (by decide) x36
                have c6P : w6.cell? ⟨d.P, d.o + 2, none⟩ = some (.slice (some ⟨d.R, 0, none⟩) (d.n + 1) (d.n + 1)) := by rw [cell_of_only ho6 (by have := HPS4.out.P.lt; have := HO5.out.size; omega) hPb]; exact q1
                have c6R : w6.cell? ⟨d.R, c.q, none⟩ = some (.slice (some ⟨b, 0, none⟩) (d.n + 1) (d.n + 1)) := by rw [cell_of_only ho6 HRR5.out.lt hRb]; exact q2
                have HB6 := hidP hb6
                have HO6 := hidP ho6
                have HR6 := hidP (HR5.out.trans' ho6 (fun x _ e => .inr (.inr (.inr (.inr (.inr (by have := HPS4.out.sz; have := HBE.out; omega)))))))
                clear hKY hall hKY2 hb6 ho6 hrow6 x0 x5 x6 x34 x35 x36 q1 q2
                go_upto_block 2 with fail
                have hEBb : d.EB ≤ b := by have := OK.out.eP; have := OK.out.bP; have := HPS4.out.sz; have := HBE.out; omega
                have hsz6 : w4.heap.size ≤ w6.heap.size := by have := HO5.out.size; have := HO6.out.size; omega
                have hints : IntsS w6 d.EB (.slice ta c.xs.length tc) c.xs := by
                  refine HE7.out.only HR6.out (fun b _ e => ?_)
                  have := OK.out.eP
                  have := OK.out.eC
                  have := OK.out.eR
                  have := OK.out.eLo
                  have := OK.out.eLO
                  have := OK.out.bP
                  rcases e with e | e | e | e | e | e <;> omega
                have hks : ∀ z1 z2 z3 z4, Keeps 4 235 [] T ((((Y.setIfInBounds 94 z1).setIfInBounds 95 z2).setIfInBounds 96 z3).setIfInBounds 97 z4) := fun z1 z2 z3 z4 => by
                  repeat (refine Keeps.put ?_ _ _ (by first | exact .inr ⟨by decide, by decide⟩ | exact .inl (by decide)))
                  exact HKY.out
                have y6' : Y[6]'(by omega) = _ := at_of _ y6
                have y34' : Y[34]'(by omega) = _ := at_of _ y34
                have y35' : Y[35]'(by omega) = _ := at_of _ y35
                have y36' : Y[36]'(by omega) = _ := at_of _ y36
                refine set2 d.P d.o d.R d.n c.q b d.EB (fun _ => false) c.xs (.slice ta c.xs.length tc) w6 hn6 hqn (by have := HPS4.out.P.lt; omega) (by have := HPS4.out.R.lt; omega) c6P c6R HB6.out hPb hRb hEBb hints HXI.out hxl _ _ (by simp [hY]) ((hks _ _ _ _).get t0 (by decide) (by decide)) (by simp [hY, y6']) (by simp [hY]) (by simp [hY]) (by simp [hY]) ?_
                intro Z w7 hKZ hb7 ho7
                have hkz : Keeps 4 235 [] T Z := Keeps.trans (hks _ _ _ _) (hKZ.mono (fun i hi => by simp at hi; exact .inr (by omega)) (by decide) (by decide))
                have hZ : Z.size = 236 := hkz.1.trans hT0
                have z34 : Z[34]'(by omega) = .slice (some ⟨B, 0, none⟩) d.cl.length cap := at_of _ (hKZ.get (by simp [hY, y34']) (by decide) (by decide))
                have z35 : Z[35]'(by omega) = .int .i64 d.cl.length := at_of _ (hKZ.get (by simp [hY, y35']) (by decide) (by decide))
                have z36 : Z[36]'(by omega) = .int .i64 j := at_of _ (hKZ.get (by simp [hY, y36']) (by decide) (by decide))
                have ho47 : Only (fun x => x = d.R) w4 w7 := (HO5.out.trans' HO6.out (fun x hx e => by have := HBE.out; omega)).trans' ho7 (fun x hx e => by have := HBE.out; omega)
                have hR7 := (HRR5.out.only HO6.out hRb).only ho7 hRb
                have hps7 := HPS4.out.setR OK.out c.q hq1 hqn b (by have := HBE.out; omega) ho47 hR7 (fun i => c.xs.contains i) (hb7.ext fun x hx => by simp)
                have HPS7 := hidP hps7
                have HR7 := hidP (HR6.out.trans' ho7 (fun x _ e => .inr (.inr (.inr (.inr (.inr (by have := HPS4.out.sz; have := HBE.out; omega)))))))
                have HKZ := hidP hkz
                clear hKZ hkz hb7 ho7 ho47 hR7 hps7 hks y6' y34' y35' y36' y0 y5 y6 y34 y35 y36 c62 c6P c6R
                go_wp2_with fail
                first | refine ⟨trivial, k - 1, by omega, ?_⟩ | refine ⟨k - 1, by omega, ?_⟩
                rw [HI.out]
                obtain ⟨s1, s2, s3, s4⟩ := HNEW.out
                refine ⟨j + 1, by omega, ?_, by simp [hZ, z34, HE1.out], by simp [hZ, z35], by simp [hZ], fav4, fun k => if k = c.q then .slice (some ⟨b, 0, none⟩) (d.n + 1) (d.n + 1) else reV k, ?_, ?_, ?_, ?_, HO.out.trans HR7.out⟩
                · repeat (refine Keeps.put ?_ _ _ (by first | exact .inr ⟨by decide, by decide⟩ | exact .inl (by decide)))
                  exact HKZ.out
                · rw [s1, s2, s3, ← HFLE.out]
                  exact HPS7.out
                · rw [s1]
                  intro q h2 h3
                  by_cases e : q = c.q
                  · simp only [e, if_true] at h3
                    omega
                  · simp only [e, if_false] at h3 ⊢
                    exact HNIL.out q h2 h3
                · rw [s3]
                  intro h
                  simp at h
                · rw [s1]
                  intro q h1 h2 h3
                  by_cases e : q = c.q
                  · simp only [e, if_true]
                    intro h
                    cases h
                  · simp only [e, if_false] at h3 ⊢
                    exact HNN.out q h1 h2 h3
    · have hj : j = d.cl.length := by have := of_decide_eq_false h; omega
      clear h
      go_wp2_with fail
      subst hj
      have hps := HPS.out
      have hnn := HNN.out
      have hnil := HNIL.out
      have hfe := HFE.out
      rw [List.take_length] at hps hnn hnil hfe
      refine HQ.out _ _ fav reV ?_ hps hnn hnil hfe HO.out
      repeat (refine Keeps.put ?_ _ _ (by first | exact .inr ⟨by decide, by decide⟩ | exact .inl (by decide)))
      exact HK.out
  · rw [HI.out]
    refine ⟨0, by omega, Keeps.refl, t34, t35, t36, .slice none 0 0, fun _ => .slice none 0 0, ?_, fun _ _ _ => rfl, fun _ => rfl, fun q _ _ h => ?_, Only.refl⟩
    · have := HPS0.out
      exact this
    · simp [crF] at h
end Go.Proofs.Ybulkcawy
