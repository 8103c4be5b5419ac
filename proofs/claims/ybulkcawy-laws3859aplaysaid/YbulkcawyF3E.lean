/-
  LawS3859APlay: the log that it wants: the events of a process.
-/
import Derived.Test.YbulkcawyF3X
namespace Go.Proofs.Ybulkcawy
open Go.RowKit
set_option linter.unusedSimpArgs false
set_option linter.unusedVariables false
set_option maxRecDepth 100000
set_option maxHeartbeats 1000000

theorem evsV_at (es : List Ev) (k : Nat) (hk : k < es.length) : (evsV es)[k * 3]? = some (.int .i64 es[k].p) ∧ (evsV es)[k * 3 + 1]? = some (.int .i64 es[k].t) ∧ (evsV es)[k * 3 + 2]? = some (labelV es[k].l) := by
  unfold evsV
  induction es generalizing k with
  | nil => simp at hk
  | cons e es ih =>
    simp only [List.flatMap_cons]
    cases k with
    | zero => simp
    | succ k =>
      have := ih k (by simpa using hk)
      rw [show (k + 1) * 3 = k * 3 + 3 by omega]
      refine ⟨?_, ?_, ?_⟩
      · rw [List.getElem?_append_right (by simp)]; simpa using this.1
      · rw [show k * 3 + 3 + 1 = k * 3 + 1 + 3 by omega, List.getElem?_append_right (by simp)]; simpa using this.2.1
      · rw [show k * 3 + 3 + 2 = k * 3 + 2 + 3 by omega, List.getElem?_append_right (by simp)]; simpa using this.2.2
theorem evs_cell {w : World} {B g cap : Nat} {es : List Ev} (h : w.ownsRow B 40 3 (.slice (some ⟨g, 0, none⟩) es.length cap) es.length (evsV es)) (k : Nat) (hk : k < es.length) : w.cell? ⟨g, k * 3, none⟩ = some (.int .i64 es[k].p) ∧ w.cell? ⟨g, k * 3 + 1, none⟩ = some (.int .i64 es[k].t) ∧ w.cell? ⟨g, k * 3 + 2, none⟩ = some (labelV es[k].l) := by
  rcases h.2 with ⟨e, _⟩ | ⟨g', cap', cur, e, h1, h2, h3, h4, h5, h6⟩
  · cases e
  · injection e with e _ _
    injection e with e
    injection e with e
    subst e
    have hcell : ∀ x, x < es.length * 3 → w.cell? ⟨g, x, none⟩ = (evsV es)[x]? := fun x hx => by
      rw [← h6, List.getElem?_take_of_lt hx]
      simp [World.cell?, h2]
    obtain ⟨a, b, c⟩ := evsV_at es k hk
    rw [hcell _ (by omega), hcell _ (by omega), hcell _ (by omega)]
    exact ⟨a, b, c⟩

/-- The events of process i at time r. -/
def selE (r i : Nat) (es : List Ev) : List Ev := es.filter fun e => decide (e.t = r) && decide (e.p = i)
theorem selE_take (r i : Nat) (es : List Ev) (j : Nat) (hj : j < es.length) : selE r i (es.take (j + 1)) = selE r i (es.take j) ++ (if decide (es[j].t = r) && decide (es[j].p = i) then [es[j]] else []) := by
  have e : es.take (j + 1) = es.take j ++ [es[j]] := by simp
  unfold selE
  rw [e, List.filter_append]
  congr 1
  simp only [List.filter_cons, List.filter_nil]

theorem own_lt3 {w : World} {B e size n b : Nat} {v : Value} {xs : List Value} (h : w.ownsRow B e size v n xs) (hb : v.ownBlock = some b) : b < w.heap.size := by
  rcases h.2 with ⟨rfl, _⟩ | ⟨g, cap, cur, rfl, h1, h2, _⟩
  · simp [Value.ownBlock] at hb
  · simp [Value.ownBlock] at hb
    subst hb
    exact (Array.getElem?_eq_some_iff.1 h2).1

theorem f3_24 (r i : Nat) (B E ec : Nat) (es : List Ev) (hes : es.length ≤ 1000) (v : Value) (w : World) (hv : v = .slice (some ⟨E, 0, none⟩) es.length ec ∨ es = []) (hown : w.ownsRow B 40 3 v es.length (evsV es)) (T : Array Value) (Q : Exit → Act → World → Prop) (hT0 : T.size = 735) (t63 : T[63]?.getD undef = .int .i64 r) (t65 : T[65]?.getD undef = .int .i64 i) (t466 : T[466]?.getD undef = v) (t467 : T[467]?.getD undef = .int .i64 es.length) (t66 : T[66]?.getD undef = .int .i64 0) (t468 : T[468]?.getD undef = .int .i64 0)
    (hQ : ∀ T' w', Keeps 468 734 [66, 67, 68] T T' → T'[66]?.getD undef = .int .i64 (selE r i es).length → Only (fun _ => False) w w' → Q .normal ⟨T', []⟩ w') : (blkOf Yba.f3 24).wp Yba.prog Q ⟨T, []⟩ w := by
  conv in (blkOf Yba.f3 24) => whnf
  refine wp_block ?_
  have HQ := hidP hQ
  have HO0 := hidP hown
  have HV := hidP hv
  clear hQ hown hv
  obtain ⟨I, hI⟩ : ∃ I : Nat → Array Value → World → Prop, I = (fun k T2 wr => ∃ j, j + k = es.length ∧ Keeps 468 734 [66, 67, 68] T T2 ∧ T2[66]?.getD undef = .int .i64 (selE r i (es.take j)).length ∧ T2[468]?.getD undef = .int .i64 j ∧ Only (fun _ => False) w wr) := ⟨_, rfl⟩
  have HI := hidP hI
  clear hI
  refine wp_loop_n I ?_ es.length _ _ ?_
  · intro k T2 wr hIk
    rw [HI.out] at hIk
    obtain ⟨j, hjk, hK, u66, u468, ho⟩ := hIk
    have hT : T2.size = 735 := hK.1.trans hT0
    have a63 := hK.at' hT 63 (by decide) t63 (by decide) (by decide)
    have a65 := hK.at' hT 65 (by decide) t65 (by decide) (by decide)
    have a466 := hK.at' hT 466 (by decide) t466 (by decide) (by decide)
    have a467 := hK.at' hT 467 (by decide) t467 (by decide) (by decide)
    have a66 : T2[66]'(by omega) = _ := at_of _ u66
    have a468 : T2[468]'(by omega) = _ := at_of _ u468
    have HK := hidP hK
    clear hK u66 u468
    have HO := hidP ho
    clear ho
    go_upto_if 469 with fail
    refine wp_cond_at (decide (j < es.length)) (by simp [Act.eval, hT]) (fun h => ?_) (fun h => ?_)
    · have hj : j < es.length := of_decide_eq_true h
      clear h
      have hvv : v = .slice (some ⟨E, 0, none⟩) es.length ec := by
        rcases HV.out with h | h
        · exact h
        · rw [h] at hj; simp at hj
      have hownr : wr.ownsRow B 40 3 (.slice (some ⟨E, 0, none⟩) es.length ec) es.length (evsV es) := by
        rw [← hvv]
        exact own_of_block HO0.out fun g hg => HO.out.block g (own_lt3 HO0.out hg) (fun e => e)
      obtain ⟨x0, x1, x2⟩ := evs_cell hownr j hj
      obtain ⟨e, hee⟩ : ∃ e, e = es[j] := ⟨_, rfl⟩
      rw [← hee] at x0 x1 x2
      have i1 : (0 : Int) ≤ (j : Int) := by omega
      have i2 : (j : Int) < (es.length : Int) := by omega
      obtain ⟨lb, hlb⟩ : ∃ lb, lb = labelB e.l := ⟨_, rfl⟩
      rw [labelV, ← hlb] at x2
      have HLB := hidP hlb
      clear hlb
      have hst := selE_take r i es j hj
      rw [← hee] at hst
      have HST := hidP hst
      clear hst hownr hee
      refine gen_frame (fun T2 => T2.size = 735 ∧ Keeps 468 734 [66, 67, 68] T T2 ∧ T2[66]?.getD undef = .int .i64 (selE r i (es.take j)).length ∧ T2[468]?.getD undef = .int .i64 j) ⟨by simp [hT], ?_, by simp [hT, a63, a65, a466, a467, a66, a468], by simp [hT, a63, a65, a466, a467, a66, a468]⟩ ?_
      · repeat (refine Keeps.put ?_ _ _ (by first | exact .inr ⟨by decide, by decide⟩ | exact .inl (by decide)))
        exact HK.out
      clear a63 a65 a466 a467 a66 a468 HK hT
      clear T2
      rintro T2 ⟨hT, hK, u66, u468⟩
      have a63 := hK.at' hT 63 (by decide) t63 (by decide) (by decide)
      have a65 := hK.at' hT 65 (by decide) t65 (by decide) (by decide)
      have a466 := hK.at' hT 466 (by decide) t466 (by decide) (by decide)
      have a467 := hK.at' hT 467 (by decide) t467 (by decide) (by decide)
      have a66 : T2[66]'(by omega) = _ := at_of _ u66
      have a468 : T2[468]'(by omega) = _ := at_of _ u468
      have HK := hidP hK
      clear hK u66 u468
      rw [hvv] at a466
      go_upto_region 119 with fail
      refine gen_both (fun T2 w1 => T2.size = 735 ∧ Keeps 468 734 [66, 67, 68] T T2 ∧ T2[66]?.getD undef = .int .i64 (selE r i (es.take j)).length ∧ T2[468]?.getD undef = .int .i64 j ∧ T2[68]?.getD undef = .pointer (some ⟨wr.heap.size, 0, none⟩) ∧ w1.cell? ⟨wr.heap.size, 0, none⟩ = some (.int .i64 e.p) ∧ w1.cell? ⟨wr.heap.size, 1, none⟩ = some (.int .i64 e.t) ∧ Only (fun _ => False) wr w1) ⟨by simp [hT], ?_, by simp [hT, a66], by simp [hT, a468], by simp [hT], ?_, ?_, Only.refl.alloc _⟩ ?_
      · repeat (refine Keeps.put ?_ _ _ (by first | exact .inr ⟨by decide, by decide⟩ | exact .inl (by decide)))
        exact HK.out
      · exact (Row.newL wr [.int .i64 e.p, .int .i64 e.t, .string lb] 40).cell 0 (by simp)
      · exact (Row.newL wr [.int .i64 e.p, .int .i64 e.t, .string lb] 40).cell 1 (by simp)
      clear a63 a65 a466 a467 a66 a468 HK hT x0 x1 x2
      clear T2
      rintro T2 w1 ⟨hT, hK, u66, u468, u68, c0, c1, ho1⟩
      obtain ⟨eb, heb⟩ : ∃ eb, eb = wr.heap.size := ⟨_, rfl⟩
      rw [← heb] at u68 c0 c1
      have s68 := u68
      have s63 := hK.get t63 (by decide) (by decide)
      have s65 := hK.get t65 (by decide) (by decide)
      have s66 := u66
      have s468 := u468
      have HK := hidP hK
      have HO1 := hidP (HO.out.trans ho1)
      clear hK ho1
      rename_i K119 hK119
      have HK119 := hidP hK119
      clear hK119
      obtain ⟨b, hb⟩ : ∃ b, b = (decide (e.t = r) && decide (e.p = i)) := ⟨_, rfl⟩
      have HB := hidP hb
      clear hb
      suffices merge : ∀ T2, T2.size = 735 ∧ Keeps 468 734 [66, 67, 68] T T2 ∧ T2[66]?.getD undef = .int .i64 (selE r i (es.take j)).length ∧ T2[468]?.getD undef = .int .i64 j ∧ T2[481]?.getD undef = .bool b → K119 ⟨T2, []⟩ w1 by
        have MERGE := hidP merge
        clear merge
        by_cases h1 : e.t = r
        · have hne1 : ((e.t : Int) == (r : Int)) = true := by simp [h1]
          by_cases h2 : e.p = i
          · have hne2 : ((e.p : Int) == (i : Int)) = true := by simp [h2]
            refine region_plain _ 735 hT [.pointer (some ⟨eb, 1, none⟩), .int .i64 e.t, .int .i64 r, .bool true, .bool true, .pointer (some ⟨eb, 0, none⟩), .int .i64 e.p, .int .i64 i, .bool true, .bool true] w1 (by decide) (by decide) ?_ ?_
            · intro i hi U hU hK hprev
              have hi' : i < 10 := hi
              rcases (by omega : i = 0 ∨ i = 1 ∨ i = 2 ∨ i = 3 ∨ i = 4 ∨ i = 5 ∨ i = 6 ∨ i = 7 ∨ i = 8 ∨ i = 9) with rfl | rfl | rfl | rfl | rfl | rfl | rfl | rfl | rfl | rfl
              · have hxs : U[68]?.getD undef = .pointer (some ⟨eb, 0, none⟩) := kept_of hK 68 (by decide) (by assumption)
                refine .inl ⟨want_none rfl, ?_⟩
                refine step_of_run (v := .pointer (some ⟨eb, 1, none⟩)) (w' := _) ?_ ⟨rfl, _, rfl, (fun h => by cases h), rfl⟩
                simp [execOp, go_sem, hxs, c1, c0, hne1, hne2]
              · have d0 : U[472]?.getD undef = .pointer (some ⟨eb, 1, none⟩) := slot_of (hprev 0 (by decide)) rfl
                refine .inl ⟨want_none rfl, ?_⟩
                refine step_of_run (v := .int .i64 e.t) (w' := _) ?_ ⟨rfl, _, rfl, (fun h => by cases h), rfl⟩
                simp [execOp, go_sem, d0, c1, c0, hne1, hne2]
              · have hx63 : U[63]?.getD undef = .int .i64 r := kept_of hK 63 (by decide) (by assumption)
                refine .inl ⟨want_none rfl, ?_⟩
                refine step_of_run (v := .int .i64 r) (w' := _) ?_ ⟨rfl, _, rfl, (fun h => by cases h), rfl⟩
                simp [execOp, go_sem, hx63, c1, c0, hne1, hne2]
              · have d1 : U[473]?.getD undef = .int .i64 e.t := slot_of (hprev 1 (by decide)) rfl
                have d2 : U[474]?.getD undef = .int .i64 r := slot_of (hprev 2 (by decide)) rfl
                refine .inl ⟨want_none rfl, ?_⟩
                refine step_of_run (v := .bool true) (w' := _) ?_ ⟨rfl, _, rfl, (fun h => by cases h), rfl⟩
                simp [execOp, go_sem, d1, d2, c1, c0, hne1, hne2]
              · have d3 : U[475]?.getD undef = .bool true := slot_of (hprev 3 (by decide)) rfl
                refine .inl ⟨want_none rfl, ?_⟩
                refine step_of_run (v := .bool true) (w' := _) ?_ ⟨rfl, _, rfl, (fun h => by cases h), rfl⟩
                simp [execOp, go_sem, d3, c1, c0, hne1, hne2]
              · have hxs : U[68]?.getD undef = .pointer (some ⟨eb, 0, none⟩) := kept_of hK 68 (by decide) (by assumption)
                refine .inl ⟨want_of (d := 476) rfl rfl (by omega) (slot_of (hprev 4 (by decide)) rfl), ?_⟩
                refine step_of_run (v := .pointer (some ⟨eb, 0, none⟩)) (w' := _) ?_ ⟨rfl, _, rfl, (fun h => by cases h), rfl⟩
                simp [execOp, go_sem, hxs, c1, c0, hne1, hne2]
              · have d5 : U[477]?.getD undef = .pointer (some ⟨eb, 0, none⟩) := slot_of (hprev 5 (by decide)) rfl
                refine .inl ⟨want_of (d := 476) rfl rfl (by omega) (slot_of (hprev 4 (by decide)) rfl), ?_⟩
                refine step_of_run (v := .int .i64 e.p) (w' := _) ?_ ⟨rfl, _, rfl, (fun h => by cases h), rfl⟩
                simp [execOp, go_sem, d5, c1, c0, hne1, hne2]
              · have hx65 : U[65]?.getD undef = .int .i64 i := kept_of hK 65 (by decide) (by assumption)
                refine .inl ⟨want_of (d := 476) rfl rfl (by omega) (slot_of (hprev 4 (by decide)) rfl), ?_⟩
                refine step_of_run (v := .int .i64 i) (w' := _) ?_ ⟨rfl, _, rfl, (fun h => by cases h), rfl⟩
                simp [execOp, go_sem, hx65, c1, c0, hne1, hne2]
              · have d6 : U[478]?.getD undef = .int .i64 e.p := slot_of (hprev 6 (by decide)) rfl
                have d7 : U[479]?.getD undef = .int .i64 i := slot_of (hprev 7 (by decide)) rfl
                refine .inl ⟨want_of (d := 476) rfl rfl (by omega) (slot_of (hprev 4 (by decide)) rfl), ?_⟩
                refine step_of_run (v := .bool true) (w' := _) ?_ ⟨rfl, _, rfl, (fun h => by cases h), rfl⟩
                simp [execOp, go_sem, d6, d7, c1, c0, hne1, hne2]
              · have d4 : U[476]?.getD undef = .bool true := slot_of (hprev 4 (by decide)) rfl
                have d8 : U[480]?.getD undef = .bool true := slot_of (hprev 8 (by decide)) rfl
                refine .inl ⟨want_none rfl, ?_⟩
                refine step_of_run (v := .bool true) (w' := _) ?_ ⟨rfl, _, rfl, (fun h => by cases h), rfl⟩
                simp [execOp, go_sem, d4, d8, c1, c0, hne1, hne2]
            · intro U hU hKU hall
              have b481 : U[481]?.getD undef = .bool true := slot_of (hall 9 (by decide)) rfl
              exact MERGE.out U ⟨hU, Keeps.trans HK.out (Kept.keeps (lo := 468) (hi := 734) (vs := [66, 67, 68]) hKU (hU.trans hT.symm) (by decide)), kept_of hKU 66 (by decide) s66, kept_of hKU 468 (by decide) s468, b481.trans (by rw [HB.out]; simp [h1, h2])⟩
          · have hne2 : ((e.p : Int) == (i : Int)) = false := by simp; omega
            refine region_plain _ 735 hT [.pointer (some ⟨eb, 1, none⟩), .int .i64 e.t, .int .i64 r, .bool true, .bool true, .pointer (some ⟨eb, 0, none⟩), .int .i64 e.p, .int .i64 i, .bool false, .bool false] w1 (by decide) (by decide) ?_ ?_
            · intro i hi U hU hK hprev
              have hi' : i < 10 := hi
              rcases (by omega : i = 0 ∨ i = 1 ∨ i = 2 ∨ i = 3 ∨ i = 4 ∨ i = 5 ∨ i = 6 ∨ i = 7 ∨ i = 8 ∨ i = 9) with rfl | rfl | rfl | rfl | rfl | rfl | rfl | rfl | rfl | rfl
              · have hxs : U[68]?.getD undef = .pointer (some ⟨eb, 0, none⟩) := kept_of hK 68 (by decide) (by assumption)
                refine .inl ⟨want_none rfl, ?_⟩
                refine step_of_run (v := .pointer (some ⟨eb, 1, none⟩)) (w' := _) ?_ ⟨rfl, _, rfl, (fun h => by cases h), rfl⟩
                simp [execOp, go_sem, hxs, c1, c0, hne1, hne2]
              · have d0 : U[472]?.getD undef = .pointer (some ⟨eb, 1, none⟩) := slot_of (hprev 0 (by decide)) rfl
                refine .inl ⟨want_none rfl, ?_⟩
                refine step_of_run (v := .int .i64 e.t) (w' := _) ?_ ⟨rfl, _, rfl, (fun h => by cases h), rfl⟩
                simp [execOp, go_sem, d0, c1, c0, hne1, hne2]
              · have hx63 : U[63]?.getD undef = .int .i64 r := kept_of hK 63 (by decide) (by assumption)
                refine .inl ⟨want_none rfl, ?_⟩
                refine step_of_run (v := .int .i64 r) (w' := _) ?_ ⟨rfl, _, rfl, (fun h => by cases h), rfl⟩
                simp [execOp, go_sem, hx63, c1, c0, hne1, hne2]
              · have d1 : U[473]?.getD undef = .int .i64 e.t := slot_of (hprev 1 (by decide)) rfl
                have d2 : U[474]?.getD undef = .int .i64 r := slot_of (hprev 2 (by decide)) rfl
                refine .inl ⟨want_none rfl, ?_⟩
                refine step_of_run (v := .bool true) (w' := _) ?_ ⟨rfl, _, rfl, (fun h => by cases h), rfl⟩
                simp [execOp, go_sem, d1, d2, c1, c0, hne1, hne2]
              · have d3 : U[475]?.getD undef = .bool true := slot_of (hprev 3 (by decide)) rfl
                refine .inl ⟨want_none rfl, ?_⟩
                refine step_of_run (v := .bool true) (w' := _) ?_ ⟨rfl, _, rfl, (fun h => by cases h), rfl⟩
                simp [execOp, go_sem, d3, c1, c0, hne1, hne2]
              · have hxs : U[68]?.getD undef = .pointer (some ⟨eb, 0, none⟩) := kept_of hK 68 (by decide) (by assumption)
                refine .inl ⟨want_of (d := 476) rfl rfl (by omega) (slot_of (hprev 4 (by decide)) rfl), ?_⟩
                refine step_of_run (v := .pointer (some ⟨eb, 0, none⟩)) (w' := _) ?_ ⟨rfl, _, rfl, (fun h => by cases h), rfl⟩
                simp [execOp, go_sem, hxs, c1, c0, hne1, hne2]
              · have d5 : U[477]?.getD undef = .pointer (some ⟨eb, 0, none⟩) := slot_of (hprev 5 (by decide)) rfl
                refine .inl ⟨want_of (d := 476) rfl rfl (by omega) (slot_of (hprev 4 (by decide)) rfl), ?_⟩
                refine step_of_run (v := .int .i64 e.p) (w' := _) ?_ ⟨rfl, _, rfl, (fun h => by cases h), rfl⟩
                simp [execOp, go_sem, d5, c1, c0, hne1, hne2]
              · have hx65 : U[65]?.getD undef = .int .i64 i := kept_of hK 65 (by decide) (by assumption)
                refine .inl ⟨want_of (d := 476) rfl rfl (by omega) (slot_of (hprev 4 (by decide)) rfl), ?_⟩
                refine step_of_run (v := .int .i64 i) (w' := _) ?_ ⟨rfl, _, rfl, (fun h => by cases h), rfl⟩
                simp [execOp, go_sem, hx65, c1, c0, hne1, hne2]
              · have d6 : U[478]?.getD undef = .int .i64 e.p := slot_of (hprev 6 (by decide)) rfl
                have d7 : U[479]?.getD undef = .int .i64 i := slot_of (hprev 7 (by decide)) rfl
                refine .inl ⟨want_of (d := 476) rfl rfl (by omega) (slot_of (hprev 4 (by decide)) rfl), ?_⟩
                refine step_of_run (v := .bool false) (w' := _) ?_ ⟨rfl, _, rfl, (fun h => by cases h), rfl⟩
                simp [execOp, go_sem, d6, d7, c1, c0, hne1, hne2]
              · have d4 : U[476]?.getD undef = .bool true := slot_of (hprev 4 (by decide)) rfl
                have d8 : U[480]?.getD undef = .bool false := slot_of (hprev 8 (by decide)) rfl
                refine .inl ⟨want_none rfl, ?_⟩
                refine step_of_run (v := .bool false) (w' := _) ?_ ⟨rfl, _, rfl, (fun h => by cases h), rfl⟩
                simp [execOp, go_sem, d4, d8, c1, c0, hne1, hne2]
            · intro U hU hKU hall
              have b481 : U[481]?.getD undef = .bool false := slot_of (hall 9 (by decide)) rfl
              exact MERGE.out U ⟨hU, Keeps.trans HK.out (Kept.keeps (lo := 468) (hi := 734) (vs := [66, 67, 68]) hKU (hU.trans hT.symm) (by decide)), kept_of hKU 66 (by decide) s66, kept_of hKU 468 (by decide) s468, b481.trans (by rw [HB.out]; simp [h1, h2])⟩
        · have hne1 : ((e.t : Int) == (r : Int)) = false := by simp; omega
          refine region_plain _ 735 hT [.pointer (some ⟨eb, 1, none⟩), .int .i64 e.t, .int .i64 r, .bool false, .bool false, undef, undef, undef, undef, .bool false] w1 (by decide) (by decide) ?_ ?_
          · intro i hi U hU hK hprev
            have hi' : i < 10 := hi
            rcases (by omega : i = 0 ∨ i = 1 ∨ i = 2 ∨ i = 3 ∨ i = 4 ∨ i = 5 ∨ i = 6 ∨ i = 7 ∨ i = 8 ∨ i = 9) with rfl | rfl | rfl | rfl | rfl | rfl | rfl | rfl | rfl | rfl
            · have hxs : U[68]?.getD undef = .pointer (some ⟨eb, 0, none⟩) := kept_of hK 68 (by decide) (by assumption)
              refine .inl ⟨want_none rfl, ?_⟩
              refine step_of_run (v := .pointer (some ⟨eb, 1, none⟩)) (w' := _) ?_ ⟨rfl, _, rfl, (fun h => by cases h), rfl⟩
              simp [execOp, go_sem, hxs, c1, c0, hne1]
            · have d0 : U[472]?.getD undef = .pointer (some ⟨eb, 1, none⟩) := slot_of (hprev 0 (by decide)) rfl
              refine .inl ⟨want_none rfl, ?_⟩
              refine step_of_run (v := .int .i64 e.t) (w' := _) ?_ ⟨rfl, _, rfl, (fun h => by cases h), rfl⟩
              simp [execOp, go_sem, d0, c1, c0, hne1]
            · have hx63 : U[63]?.getD undef = .int .i64 r := kept_of hK 63 (by decide) (by assumption)
              refine .inl ⟨want_none rfl, ?_⟩
              refine step_of_run (v := .int .i64 r) (w' := _) ?_ ⟨rfl, _, rfl, (fun h => by cases h), rfl⟩
              simp [execOp, go_sem, hx63, c1, c0, hne1]
            · have d1 : U[473]?.getD undef = .int .i64 e.t := slot_of (hprev 1 (by decide)) rfl
              have d2 : U[474]?.getD undef = .int .i64 r := slot_of (hprev 2 (by decide)) rfl
              refine .inl ⟨want_none rfl, ?_⟩
              refine step_of_run (v := .bool false) (w' := _) ?_ ⟨rfl, _, rfl, (fun h => by cases h), rfl⟩
              simp [execOp, go_sem, d1, d2, c1, c0, hne1]
            · have d3 : U[475]?.getD undef = .bool false := slot_of (hprev 3 (by decide)) rfl
              refine .inl ⟨want_none rfl, ?_⟩
              refine step_of_run (v := .bool false) (w' := _) ?_ ⟨rfl, _, rfl, (fun h => by cases h), rfl⟩
              simp [execOp, go_sem, d3, c1, c0, hne1]
            · exact .inr ⟨skip_of (d := 476) rfl rfl (by omega) (slot_of (hprev 4 (by decide)) rfl), rfl⟩
            · exact .inr ⟨skip_of (d := 476) rfl rfl (by omega) (slot_of (hprev 4 (by decide)) rfl), rfl⟩
            · exact .inr ⟨skip_of (d := 476) rfl rfl (by omega) (slot_of (hprev 4 (by decide)) rfl), rfl⟩
            · exact .inr ⟨skip_of (d := 476) rfl rfl (by omega) (slot_of (hprev 4 (by decide)) rfl), rfl⟩
            · have d4 : U[476]?.getD undef = .bool false := slot_of (hprev 4 (by decide)) rfl
              have d8 : U[480]?.getD undef = undef := slot_of (hprev 8 (by decide)) rfl
              refine .inl ⟨want_none rfl, ?_⟩
              refine step_of_run (v := .bool false) (w' := _) ?_ ⟨rfl, _, rfl, (fun h => by cases h), rfl⟩
              simp [execOp, go_sem, d4, d8, c1, c0, hne1]
          · intro U hU hKU hall
            have b481 : U[481]?.getD undef = .bool false := slot_of (hall 9 (by decide)) rfl
            exact MERGE.out U ⟨hU, Keeps.trans HK.out (Kept.keeps (lo := 468) (hi := 734) (vs := [66, 67, 68]) hKU (hU.trans hT.symm) (by decide)), kept_of hKU 66 (by decide) s66, kept_of hKU 468 (by decide) s468, b481.trans (by rw [HB.out]; simp [h1])⟩
      clear s63 s65 s66 s68 s468 u66 u68 u468 HK hT c0 c1
      clear T2
      rintro T2 ⟨hT, hK, u66, u468, u481⟩
      have a63 := hK.at' hT 63 (by decide) t63 (by decide) (by decide)
      have a65 := hK.at' hT 65 (by decide) t65 (by decide) (by decide)
      have a466 := hK.at' hT 466 (by decide) t466 (by decide) (by decide)
      have a467 := hK.at' hT 467 (by decide) t467 (by decide) (by decide)
      have a66 : T2[66]'(by omega) = _ := at_of _ u66
      have a468 : T2[468]'(by omega) = _ := at_of _ u468
      have a481 : T2[481]'(by omega) = _ := at_of _ u481
      have HK := hidP hK
      clear hK u66 u468 u481
      refine HK119.out _ _ ?_
      go_upto_if 481 with fail
      have hlen : (selE r i (es.take j)).length ≤ 1000 := by
        unfold selE
        exact Nat.le_trans (List.length_filter_le _ _) (by rw [List.length_take]; omega)
      obtain ⟨cn, hcn⟩ : ∃ cn, cn = (selE r i (es.take j)).length := ⟨_, rfl⟩
      rw [← hcn] at a66 hlen
      have HCN := hidP hcn
      clear hcn
      refine wp_cond_at b (by simp [Act.eval, hT, a481]) (fun h => ?_) (fun h => ?_)
      · go_wp2_with fail
        first | refine ⟨trivial, k - 1, by omega, ?_⟩ | refine ⟨k - 1, by omega, ?_⟩
        rw [HI.out]
        refine ⟨j + 1, by omega, ?_, ?_, by simp [hT], HO1.out⟩
        · repeat (refine Keeps.put ?_ _ _ (by first | exact .inr ⟨by decide, by decide⟩ | exact .inl (by decide)))
          exact HK.out
        · rw [HST.out, ← HB.out, h, List.length_append, ← HCN.out]
          simp [hT]
      · go_wp2_with fail
        first | refine ⟨trivial, k - 1, by omega, ?_⟩ | refine ⟨k - 1, by omega, ?_⟩
        rw [HI.out]
        refine ⟨j + 1, by omega, ?_, ?_, by simp [hT], HO1.out⟩
        · repeat (refine Keeps.put ?_ _ _ (by first | exact .inr ⟨by decide, by decide⟩ | exact .inl (by decide)))
          exact HK.out
        · rw [HST.out, ← HB.out, h, List.length_append, ← HCN.out]
          simp [hT, a66]
    · have hj : j = es.length := by have := of_decide_eq_false h; omega
      clear h
      go_wp2_with fail
      subst hj
      refine HQ.out _ _ ?_ (by simp [hT, a66]) HO.out
      repeat (refine Keeps.put ?_ _ _ (by first | exact .inr ⟨by decide, by decide⟩ | exact .inl (by decide)))
      exact HK.out
  · rw [HI.out]
    exact ⟨0, by omega, Keeps.refl, by simpa [selE] using t66, t468, Only.refl⟩

end Go.Proofs.Ybulkcawy
