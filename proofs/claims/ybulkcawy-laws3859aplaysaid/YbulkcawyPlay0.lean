/-
  playFrom's first loop: the events ahead of the first round are passed over.
-/
import Derived.Test.YbulkcawyState
namespace Go.Proofs.Ybulkcawy
open Go.RowKit
set_option linter.unusedSimpArgs false
set_option linter.unusedVariables false
set_option maxRecDepth 100000
set_option maxHeartbeats 4000000

def Ev.early (e : Ev) : Bool := decide (e.t < 1)

theorem play0 (X EB bad : Nat) (evs : List Ev) (v : Value) (w : World) (T : Array Value) (Q : Exit → Act → World → Prop) (hT0 : T.size = 153) (t1 : T[1]?.getD undef = .int .i64 1) (t9 : T[9]?.getD undef = .pointer (some ⟨X, 0, none⟩)) (hX : Row w X 37 1 (fun _ => v)) (hev : EvS w EB bad v evs) (hXE : ∀ a, v.ownBlock = some a → a ≠ X) (hm : evs.length ≤ 1000)
    (hQ : ∀ T' w' v', Keeps 35 152 [] T T' → Row w' X 37 1 (fun _ => v') → EvS w' EB bad v' (evs.dropWhile Ev.early) → (∀ a, v'.ownBlock = some a → a ≠ X) → Only (fun b => b = X) w w' → Q .normal ⟨T', []⟩ w') : (blkOf Yba.f15 0).wp Yba.prog Q ⟨T, []⟩ w := by
  conv in (blkOf Yba.f15 0) => whnf
  refine wp_block ?_
  have HQ := hidP hQ
  clear hQ
  have HX := hidP hX
  have HEV := hidP hev
  have HXE := hidP hXE
  clear hX hev hXE
  obtain ⟨I, hI⟩ : ∃ I : Nat → Array Value → World → Prop, I = (fun k T2 wr => Keeps 35 152 [] T T2 ∧ ∃ es v, es.length = k ∧ es.length ≤ 1000 ∧ es.dropWhile Ev.early = evs.dropWhile Ev.early ∧ Row wr X 37 1 (fun _ => v) ∧ EvS wr EB bad v es ∧ (∀ a, v.ownBlock = some a → a ≠ X) ∧ Only (fun b => b = X) w wr) := ⟨_, rfl⟩
  have HI := hidP hI
  clear hI
  refine wp_loop_n I ?_ evs.length _ _ ?_
  · intro k T2 wr hIk
    rw [HI.out] at hIk
    obtain ⟨hK, es, v, hes, hln', hdw, hX, hev, hXE, ho⟩ := hIk
    have hT : T2.size = 153 := hK.1.trans hT0
    have u1 : T2[1]?.getD undef = .int .i64 1 := hK.get t1 (by decide) (by decide)
    have u9 : T2[9]?.getD undef = .pointer (some ⟨X, 0, none⟩) := hK.get t9 (by decide) (by decide)
    have HK := hidP hK
    have HDW := hidP hdw
    have HX := hidP hX
    have HEV := hidP hev
    have HXE := hidP hXE
    have HO := hidP ho
    have hXlt := hX.lt
    have cX := hX.cell 0 (by omega)
    have fX := hX.frozen 0
    clear hK hdw hX hev hXE ho
    obtain ⟨ea, ec, hvv⟩ := HEV.out.len
    have HVV := hidP hvv
    go_upto_region 3 with fail
    cases es with
    | nil =>
      rw [hvv] at cX
      clear hvv
      refine region_plain _ 153 hT [.slice ea 0 ec, .int .i64 0, .bool false, .bool false, undef, undef, undef, undef, undef, undef, .bool false] wr (by decide) (by decide) ?_ ?_
      · intro i hi U hU hK hprev
        have hi' : i < 11 := hi
        rcases (by omega : i = 0 ∨ i = 1 ∨ i = 2 ∨ i = 3 ∨ i = 4 ∨ i = 5 ∨ i = 6 ∨ i = 7 ∨ i = 8 ∨ i = 9 ∨ i = 10) with rfl | rfl | rfl | rfl | rfl | rfl | rfl | rfl | rfl | rfl | rfl
        · have hx9 : U[9]?.getD undef = .pointer (some ⟨X, 0, none⟩) := kept_of hK 9 (by decide) (by assumption)
          refine .inl ⟨want_none rfl, ?_⟩
          refine step_of_run (v := .slice ea 0 ec) (w' := _) ?_ ⟨rfl, _, rfl, (fun h => by cases h), rfl⟩
          simp [execOp, go_sem, hx9, cX]
        · have d0 : U[35]?.getD undef = .slice ea 0 ec := slot_of (hprev 0 (by decide)) rfl
          refine .inl ⟨want_none rfl, ?_⟩
          refine step_of_run (v := .int .i64 0) (w' := _) ?_ ⟨rfl, _, rfl, (fun h => by cases h), rfl⟩
          simp [execOp, go_sem, d0, cX]
        · have d1 : U[36]?.getD undef = .int .i64 0 := slot_of (hprev 1 (by decide)) rfl
          refine .inl ⟨want_none rfl, ?_⟩
          refine step_of_run (v := .bool false) (w' := _) ?_ ⟨rfl, _, rfl, (fun h => by cases h), rfl⟩
          simp [execOp, go_sem, d1, cX]
        · have d2 : U[37]?.getD undef = .bool false := slot_of (hprev 2 (by decide)) rfl
          refine .inl ⟨want_none rfl, ?_⟩
          refine step_of_run (v := .bool false) (w' := _) ?_ ⟨rfl, _, rfl, (fun h => by cases h), rfl⟩
          simp [execOp, go_sem, d2, cX]
        · exact .inr ⟨skip_of (d := 38) rfl rfl (by omega) (slot_of (hprev 3 (by decide)) rfl), rfl⟩
        · exact .inr ⟨skip_of (d := 38) rfl rfl (by omega) (slot_of (hprev 3 (by decide)) rfl), rfl⟩
        · exact .inr ⟨skip_of (d := 38) rfl rfl (by omega) (slot_of (hprev 3 (by decide)) rfl), rfl⟩
        · exact .inr ⟨skip_of (d := 38) rfl rfl (by omega) (slot_of (hprev 3 (by decide)) rfl), rfl⟩
        · exact .inr ⟨skip_of (d := 38) rfl rfl (by omega) (slot_of (hprev 3 (by decide)) rfl), rfl⟩
        · exact .inr ⟨skip_of (d := 38) rfl rfl (by omega) (slot_of (hprev 3 (by decide)) rfl), rfl⟩
        · have d3 : U[38]?.getD undef = .bool false := slot_of (hprev 3 (by decide)) rfl
          have d9 : U[44]?.getD undef = undef := slot_of (hprev 9 (by decide)) rfl
          refine .inl ⟨want_none rfl, ?_⟩
          refine step_of_run (v := .bool false) (w' := _) ?_ ⟨rfl, _, rfl, (fun h => by cases h), rfl⟩
          simp [execOp, go_sem, d3, d9, cX]
      · intro U hU hKU hall
        have b45 : U[45]?.getD undef = .bool false := slot_of (hall 10 (by decide)) rfl
        have hKU2 := Keeps.trans HK.out (Kept.keeps (lo := 35) (hi := 152) (vs := []) hKU (hU.trans hT.symm) (by decide))
        go_upto_if 45 with fail
        refine wp_cond_at false (by simpa [Act.eval] using b45) (fun h => by cases h) (fun _ => ?_)
        go_wp2_with fail
        refine HQ.out U wr v hKU2 HX.out ?_ HXE.out HO.out
        have := HDW.out
        rw [← this]
        exact HEV.out
    | cons e rest =>
      obtain ⟨ln, hln⟩ : ∃ ln, ln = (e :: rest).length := ⟨_, rfl⟩
      obtain ⟨E, o, cap, hv, hEB, hEL, hcap, hElt, hcE⟩ : ∃ E o cap, v = .slice (some ⟨E, o, none⟩) ln cap ∧ E < EB ∧ E ≠ bad ∧ ln ≤ cap ∧ E < wr.heap.size ∧
          ∀ k (hk : k < (e :: rest).length), wr.cell? ⟨E, o + k * 3, none⟩ = some (.int .i64 (e :: rest)[k].p) ∧ wr.cell? ⟨E, o + k * 3 + 1, none⟩ = some (.int .i64 (e :: rest)[k].t) ∧ wr.cell? ⟨E, o + k * 3 + 2, none⟩ = some (labelV (e :: rest)[k].l) := by
        rcases HEV.out with ⟨_, h⟩ | h
        · cases h
        · rw [hln]; exact h
      have c1 : wr.cell? ⟨E, o + 1, none⟩ = some (.int .i64 e.t) := by have := (hcE 0 (by simp)).2.1; simpa using this
      rw [hv] at cX
      have hln1 : 1 ≤ ln := by rw [hln]; simp
      have hln2 : ln ≤ 1000 := by rw [hln]; exact hln'
      have i1 : (0 : Int) < (ln : Int) := by omega
      have i0 : 0 < ln := by omega
      have i00 : ¬ ln = 0 := by omega
      have HV := hidP hv
      have HCE := hidP hcE
      have HLN := hidP hln
      clear hvv hcE hv hln
      by_cases he : e.t < 1
      · have he' : decide ((e.t : Int) < 1) = true := by simp; omega
        have he2 : (e.t : Int) < 1 := by omega
        refine region_plain _ 153 hT [.slice (some ⟨E, o, none⟩) ln cap, .int .i64 ln, .bool true, .bool true, .slice (some ⟨E, o, none⟩) ln cap, .pointer (some ⟨E, o, none⟩), .pointer (some ⟨E, o + 1, none⟩), .int .i64 e.t, .int .i64 1, .bool true, .bool true] wr (by decide) (by decide) ?_ ?_
        · intro i hi U hU hK hprev
          have hi' : i < 11 := hi
          rcases (by omega : i = 0 ∨ i = 1 ∨ i = 2 ∨ i = 3 ∨ i = 4 ∨ i = 5 ∨ i = 6 ∨ i = 7 ∨ i = 8 ∨ i = 9 ∨ i = 10) with rfl | rfl | rfl | rfl | rfl | rfl | rfl | rfl | rfl | rfl | rfl
          · have hx9 : U[9]?.getD undef = .pointer (some ⟨X, 0, none⟩) := kept_of hK 9 (by decide) (by assumption)
            refine .inl ⟨want_none rfl, ?_⟩
            refine step_of_run (v := .slice (some ⟨E, o, none⟩) ln cap) (w' := _) ?_ ⟨rfl, _, rfl, (fun h => by cases h), rfl⟩
            simp [execOp, go_sem, hx9, cX, c1, i1, i0, i00, he2, he']
          · have d0 : U[35]?.getD undef = .slice (some ⟨E, o, none⟩) ln cap := slot_of (hprev 0 (by decide)) rfl
            refine .inl ⟨want_none rfl, ?_⟩
            refine step_of_run (v := .int .i64 ln) (w' := _) ?_ ⟨rfl, _, rfl, (fun h => by cases h), rfl⟩
            simp [execOp, go_sem, d0, cX, c1, i1, i0, i00, he2, he']
          · have d1 : U[36]?.getD undef = .int .i64 ln := slot_of (hprev 1 (by decide)) rfl
            refine .inl ⟨want_none rfl, ?_⟩
            refine step_of_run (v := .bool true) (w' := _) ?_ ⟨rfl, _, rfl, (fun h => by cases h), rfl⟩
            simp [execOp, go_sem, d1, cX, c1, i1, i0, i00, he2, he']
          · have d2 : U[37]?.getD undef = .bool true := slot_of (hprev 2 (by decide)) rfl
            refine .inl ⟨want_none rfl, ?_⟩
            refine step_of_run (v := .bool true) (w' := _) ?_ ⟨rfl, _, rfl, (fun h => by cases h), rfl⟩
            simp [execOp, go_sem, d2, cX, c1, i1, i0, i00, he2, he']
          · have hx9 : U[9]?.getD undef = .pointer (some ⟨X, 0, none⟩) := kept_of hK 9 (by decide) (by assumption)
            refine .inl ⟨want_of (d := 38) rfl rfl (by omega) (slot_of (hprev 3 (by decide)) rfl), ?_⟩
            refine step_of_run (v := .slice (some ⟨E, o, none⟩) ln cap) (w' := _) ?_ ⟨rfl, _, rfl, (fun h => by cases h), rfl⟩
            simp [execOp, go_sem, hx9, cX, c1, i1, i0, i00, he2, he']
          · have d4 : U[39]?.getD undef = .slice (some ⟨E, o, none⟩) ln cap := slot_of (hprev 4 (by decide)) rfl
            refine .inl ⟨want_of (d := 38) rfl rfl (by omega) (slot_of (hprev 3 (by decide)) rfl), ?_⟩
            refine step_of_run (v := .pointer (some ⟨E, o, none⟩)) (w' := _) ?_ ⟨rfl, _, rfl, (fun h => by cases h), rfl⟩
            simp [execOp, go_sem, d4, cX, c1, i1, i0, i00, he2, he']
          · have d5 : U[40]?.getD undef = .pointer (some ⟨E, o, none⟩) := slot_of (hprev 5 (by decide)) rfl
            refine .inl ⟨want_of (d := 38) rfl rfl (by omega) (slot_of (hprev 3 (by decide)) rfl), ?_⟩
            refine step_of_run (v := .pointer (some ⟨E, o + 1, none⟩)) (w' := _) ?_ ⟨rfl, _, rfl, (fun h => by cases h), rfl⟩
            simp [execOp, go_sem, d5, cX, c1, i1, i0, i00, he2, he']
          · have d6 : U[41]?.getD undef = .pointer (some ⟨E, o + 1, none⟩) := slot_of (hprev 6 (by decide)) rfl
            refine .inl ⟨want_of (d := 38) rfl rfl (by omega) (slot_of (hprev 3 (by decide)) rfl), ?_⟩
            refine step_of_run (v := .int .i64 e.t) (w' := _) ?_ ⟨rfl, _, rfl, (fun h => by cases h), rfl⟩
            simp [execOp, go_sem, d6, cX, c1, i1, i0, i00, he2, he']
          · have hx1 : U[1]?.getD undef = .int .i64 1 := kept_of hK 1 (by decide) (by assumption)
            refine .inl ⟨want_of (d := 38) rfl rfl (by omega) (slot_of (hprev 3 (by decide)) rfl), ?_⟩
            refine step_of_run (v := .int .i64 1) (w' := _) ?_ ⟨rfl, _, rfl, (fun h => by cases h), rfl⟩
            simp [execOp, go_sem, hx1, cX, c1, i1, i0, i00, he2, he']
          · have d7 : U[42]?.getD undef = .int .i64 e.t := slot_of (hprev 7 (by decide)) rfl
            have d8 : U[43]?.getD undef = .int .i64 1 := slot_of (hprev 8 (by decide)) rfl
            refine .inl ⟨want_of (d := 38) rfl rfl (by omega) (slot_of (hprev 3 (by decide)) rfl), ?_⟩
            refine step_of_run (v := .bool true) (w' := _) ?_ ⟨rfl, _, rfl, (fun h => by cases h), rfl⟩
            simp [execOp, go_sem, d7, d8, cX, c1, i1, i0, i00, he2, he']
          · have d3 : U[38]?.getD undef = .bool true := slot_of (hprev 3 (by decide)) rfl
            have d9 : U[44]?.getD undef = .bool true := slot_of (hprev 9 (by decide)) rfl
            refine .inl ⟨want_none rfl, ?_⟩
            refine step_of_run (v := .bool true) (w' := _) ?_ ⟨rfl, _, rfl, (fun h => by cases h), rfl⟩
            simp [execOp, go_sem, d3, d9, cX, c1, i1, i0, i00, he2, he']
        · intro U hU hKU hall
          have b45 : U[45]?.getD undef = .bool true := slot_of (hall 10 (by decide)) rfl
          have hKU2 := Keeps.trans HK.out (Kept.keeps (lo := 35) (hi := 152) (vs := []) hKU (hU.trans hT.symm) (by decide))
          have d9 : U[9]'(by omega) = .pointer (some ⟨X, 0, none⟩) := at_of _ (kept_of hKU 9 (by decide) u9)
          have HKU := hidP hKU2
          have hEX : E ≠ X := HXE.out E (by rw [HV.out]; rfl)
          clear hall hKU hKU2
          go_upto_if 45 with fail
          refine wp_cond_at true (by simpa [Act.eval] using b45) (fun _ => ?_) (fun h => by cases h)
          have i7 : (ln : Int) ≤ (cap : Int) := by omega
          have i6 : (1 : Int) ≤ (ln : Int) := by omega
          by_cases i8 : cap = 1
          · have hrest : rest = [] := by
              have := HLN.out
              simp at this
              have : rest.length = 0 := by omega
              exact List.eq_nil_of_length_eq_zero this
            have hl1 : ln = 1 := by omega
            subst i8 hl1
            go_wp2_with fail
            refine ⟨rest.length, by have := hes; simp at this; omega, ?_⟩
            rw [HI.out]
            refine ⟨?_, rest, .slice (some ⟨E, o, none⟩) 0 0, rfl, by simp at hln'; omega, ?_, (HX.out.set 0 _).ext (fun k hk => by simp [show k = 0 by omega]), ?_, ?_, Only.setCell HO.out (fun _ => rfl) _⟩
            · repeat (refine Keeps.put ?_ _ _ (.inr ⟨by decide, by decide⟩))
              exact HKU.out
            · rw [← HDW.out, List.dropWhile_cons, if_pos (by simp [Ev.early, he])]
            · rw [hrest]
              exact .inr ⟨E, o, 0, rfl, hEB, hEL, Nat.le_refl _, by simp [World.setCell]; omega, fun k hk => by simp at hk⟩
            · intro a ha
              simp [Value.ownBlock] at ha
              subst ha
              exact hEX
          · go_wp2_with fail
            refine ⟨rest.length, by have := hes; simp at this; omega, ?_⟩
            rw [HI.out]
            have hrl : rest.length = ln - 1 := by have := HLN.out; simp at this; omega
            refine ⟨?_, rest, .slice (some ⟨E, o + 3, none⟩) (ln - 1) (cap - 1), rfl, by omega, ?_, (HX.out.set 0 _).ext (fun k hk => by simp [show k = 0 by omega]), ?_, ?_, Only.setCell HO.out (fun _ => rfl) _⟩
            · repeat (refine Keeps.put ?_ _ _ (.inr ⟨by decide, by decide⟩))
              exact HKU.out
            · rw [← HDW.out, List.dropWhile_cons, if_pos (by simp [Ev.early, he])]
            · refine .inr ⟨E, o + 3, cap - 1, by rw [hrl], hEB, hEL, by omega, by simp [World.setCell]; omega, fun k hk => ?_⟩
              have e1 : ∀ q v, (wr.setCell ⟨X, 0, none⟩ v).cell? ⟨E, q, none⟩ = wr.cell? ⟨E, q, none⟩ := fun q v => World.cell?_of_block (w := wr) (a := ⟨E, q, none⟩) (Below.heap_setCell _ _ _ _ hEX)
              have h := HCE.out (k + 1) (by simp; omega)
              rw [show o + (k + 1) * 3 = o + 3 + k * 3 by omega] at h
              rw [e1, e1, e1]
              simpa using h
            · intro a ha
              simp [Value.ownBlock] at ha
              subst ha
              exact hEX
      · have he' : decide ((e.t : Int) < 1) = false := by simp; omega
        have he2 : ¬ (e.t : Int) < 1 := by omega
        refine region_plain _ 153 hT [.slice (some ⟨E, o, none⟩) ln cap, .int .i64 ln, .bool true, .bool true, .slice (some ⟨E, o, none⟩) ln cap, .pointer (some ⟨E, o, none⟩), .pointer (some ⟨E, o + 1, none⟩), .int .i64 e.t, .int .i64 1, .bool false, .bool false] wr (by decide) (by decide) ?_ ?_
        · intro i hi U hU hK hprev
          have hi' : i < 11 := hi
          rcases (by omega : i = 0 ∨ i = 1 ∨ i = 2 ∨ i = 3 ∨ i = 4 ∨ i = 5 ∨ i = 6 ∨ i = 7 ∨ i = 8 ∨ i = 9 ∨ i = 10) with rfl | rfl | rfl | rfl | rfl | rfl | rfl | rfl | rfl | rfl | rfl
          · have hx9 : U[9]?.getD undef = .pointer (some ⟨X, 0, none⟩) := kept_of hK 9 (by decide) (by assumption)
            refine .inl ⟨want_none rfl, ?_⟩
            refine step_of_run (v := .slice (some ⟨E, o, none⟩) ln cap) (w' := _) ?_ ⟨rfl, _, rfl, (fun h => by cases h), rfl⟩
            simp [execOp, go_sem, hx9, cX, c1, i1, i0, i00, he2, he']
          · have d0 : U[35]?.getD undef = .slice (some ⟨E, o, none⟩) ln cap := slot_of (hprev 0 (by decide)) rfl
            refine .inl ⟨want_none rfl, ?_⟩
            refine step_of_run (v := .int .i64 ln) (w' := _) ?_ ⟨rfl, _, rfl, (fun h => by cases h), rfl⟩
            simp [execOp, go_sem, d0, cX, c1, i1, i0, i00, he2, he']
          · have d1 : U[36]?.getD undef = .int .i64 ln := slot_of (hprev 1 (by decide)) rfl
            refine .inl ⟨want_none rfl, ?_⟩
            refine step_of_run (v := .bool true) (w' := _) ?_ ⟨rfl, _, rfl, (fun h => by cases h), rfl⟩
            simp [execOp, go_sem, d1, cX, c1, i1, i0, i00, he2, he']
          · have d2 : U[37]?.getD undef = .bool true := slot_of (hprev 2 (by decide)) rfl
            refine .inl ⟨want_none rfl, ?_⟩
            refine step_of_run (v := .bool true) (w' := _) ?_ ⟨rfl, _, rfl, (fun h => by cases h), rfl⟩
            simp [execOp, go_sem, d2, cX, c1, i1, i0, i00, he2, he']
          · have hx9 : U[9]?.getD undef = .pointer (some ⟨X, 0, none⟩) := kept_of hK 9 (by decide) (by assumption)
            refine .inl ⟨want_of (d := 38) rfl rfl (by omega) (slot_of (hprev 3 (by decide)) rfl), ?_⟩
            refine step_of_run (v := .slice (some ⟨E, o, none⟩) ln cap) (w' := _) ?_ ⟨rfl, _, rfl, (fun h => by cases h), rfl⟩
            simp [execOp, go_sem, hx9, cX, c1, i1, i0, i00, he2, he']
          · have d4 : U[39]?.getD undef = .slice (some ⟨E, o, none⟩) ln cap := slot_of (hprev 4 (by decide)) rfl
            refine .inl ⟨want_of (d := 38) rfl rfl (by omega) (slot_of (hprev 3 (by decide)) rfl), ?_⟩
            refine step_of_run (v := .pointer (some ⟨E, o, none⟩)) (w' := _) ?_ ⟨rfl, _, rfl, (fun h => by cases h), rfl⟩
            simp [execOp, go_sem, d4, cX, c1, i1, i0, i00, he2, he']
          · have d5 : U[40]?.getD undef = .pointer (some ⟨E, o, none⟩) := slot_of (hprev 5 (by decide)) rfl
            refine .inl ⟨want_of (d := 38) rfl rfl (by omega) (slot_of (hprev 3 (by decide)) rfl), ?_⟩
            refine step_of_run (v := .pointer (some ⟨E, o + 1, none⟩)) (w' := _) ?_ ⟨rfl, _, rfl, (fun h => by cases h), rfl⟩
            simp [execOp, go_sem, d5, cX, c1, i1, i0, i00, he2, he']
          · have d6 : U[41]?.getD undef = .pointer (some ⟨E, o + 1, none⟩) := slot_of (hprev 6 (by decide)) rfl
            refine .inl ⟨want_of (d := 38) rfl rfl (by omega) (slot_of (hprev 3 (by decide)) rfl), ?_⟩
            refine step_of_run (v := .int .i64 e.t) (w' := _) ?_ ⟨rfl, _, rfl, (fun h => by cases h), rfl⟩
            simp [execOp, go_sem, d6, cX, c1, i1, i0, i00, he2, he']
          · have hx1 : U[1]?.getD undef = .int .i64 1 := kept_of hK 1 (by decide) (by assumption)
            refine .inl ⟨want_of (d := 38) rfl rfl (by omega) (slot_of (hprev 3 (by decide)) rfl), ?_⟩
            refine step_of_run (v := .int .i64 1) (w' := _) ?_ ⟨rfl, _, rfl, (fun h => by cases h), rfl⟩
            simp [execOp, go_sem, hx1, cX, c1, i1, i0, i00, he2, he']
          · have d7 : U[42]?.getD undef = .int .i64 e.t := slot_of (hprev 7 (by decide)) rfl
            have d8 : U[43]?.getD undef = .int .i64 1 := slot_of (hprev 8 (by decide)) rfl
            refine .inl ⟨want_of (d := 38) rfl rfl (by omega) (slot_of (hprev 3 (by decide)) rfl), ?_⟩
            refine step_of_run (v := .bool false) (w' := _) ?_ ⟨rfl, _, rfl, (fun h => by cases h), rfl⟩
            simp [execOp, go_sem, d7, d8, cX, c1, i1, i0, i00, he2, he']
          · have d3 : U[38]?.getD undef = .bool true := slot_of (hprev 3 (by decide)) rfl
            have d9 : U[44]?.getD undef = .bool false := slot_of (hprev 9 (by decide)) rfl
            refine .inl ⟨want_none rfl, ?_⟩
            refine step_of_run (v := .bool false) (w' := _) ?_ ⟨rfl, _, rfl, (fun h => by cases h), rfl⟩
            simp [execOp, go_sem, d3, d9, cX, c1, i1, i0, i00, he2, he']
        · intro U hU hKU hall
          have b45 : U[45]?.getD undef = .bool false := slot_of (hall 10 (by decide)) rfl
          have hKU2 := Keeps.trans HK.out (Kept.keeps (lo := 35) (hi := 152) (vs := []) hKU (hU.trans hT.symm) (by decide))
          go_upto_if 45 with fail
          refine wp_cond_at false (by simpa [Act.eval] using b45) (fun h => by cases h) (fun _ => ?_)
          go_wp2_with fail
          refine HQ.out U wr v hKU2 HX.out ?_ HXE.out HO.out
          have := HDW.out
          rw [← this, List.dropWhile_cons, if_neg (by simp [Ev.early]; omega)]
          exact HEV.out
  · rw [HI.out]
    exact ⟨Keeps.refl, evs, v, rfl, hm, rfl, HX.out, HEV.out, HXE.out, Only.refl⟩
end Go.Proofs.Ybulkcawy
