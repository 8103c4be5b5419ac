/-
  LawS3859APlay: the log that it wants: the events of a process, told.
-/
import Derived.Test.YbulkcawyChain2
namespace Go.Proofs.Ybulkcawy
open Go.RowKit
set_option linter.unusedSimpArgs false
set_option linter.unusedVariables false
set_option maxRecDepth 100000
set_option maxHeartbeats 1000000

theorem slotv_at (ops : Array Oper) (T : Array Value) (k d : Nat) (h : (ops[k]?).bind Oper.dst = some d) : slotv ops T k = T[d]?.getD undef := by
  unfold slotv
  rw [h]
  simp

theorem f3_26 (r i : Nat) (B CA E ec : Nat) (es : List Ev) (hes : es.length ≤ 1000) (hsm : ∀ e ∈ es, e.l ≤ 2) (v : Value) (w0 : World) (hB0 : B ≤ w0.heap.size) (hCAlt : CA < w0.heap.size) (xs : List Int) (hxs : xs.length ≤ 80000) (wv0 : Value) (m : Nat → Value) (w : World) (hw : Want B CA w0 w wv0 xs) (hca : Row w CA 78 36 m) (hv : v = .slice (some ⟨E, 0, none⟩) es.length ec ∨ es = []) (hown : w0.ownsRow B 40 3 v es.length (evsV es)) (hECA : ∀ g, v.ownBlock = some g → g ≠ CA) (T : Array Value) (Q : Exit → Act → World → Prop) (hT0 : T.size = 735) (t63 : T[63]?.getD undef = .int .i64 r) (t65 : T[65]?.getD undef = .int .i64 i) (t490 : T[490]?.getD undef = v) (t491 : T[491]?.getD undef = .int .i64 es.length) (t58 : T[58]?.getD undef = wv0) (t492 : T[492]?.getD undef = .int .i64 0)
    (hQ : ∀ T' w' wv, Keeps 492 734 [58, 69, 70] T T' → T'[58]?.getD undef = wv → Want B CA w0 w' wv (xs ++ (selE r i es).flatMap Ev.code) → Row w' CA 78 36 m → Q .normal ⟨T', []⟩ w') : (blkOf Yba.f3 26).wp Yba.prog Q ⟨T, []⟩ w := by
  conv in (blkOf Yba.f3 26) => whnf
  refine wp_block ?_
  have HQ := hidP hQ
  have HO0 := hidP hown
  have HV := hidP hv
  have HW0 := hidP (And.intro hw hca)
  have HSM := hidP hsm
  have HEC := hidP hECA
  clear hQ hown hv hw hca hsm hECA
  obtain ⟨i0, hi0, hz0, hz1, hz2⟩ := info_parts info3'
  obtain ⟨I, hI⟩ : ∃ I : Nat → Array Value → World → Prop, I = (fun k T2 wr => ∃ j, j + k = es.length ∧ Keeps 492 734 [58, 69, 70] T T2 ∧ T2[492]?.getD undef = .int .i64 j ∧ ∃ wv, T2[58]?.getD undef = wv ∧ Want B CA w0 wr wv (xs ++ (selE r i (es.take j)).flatMap Ev.code) ∧ Row wr CA 78 36 m) := ⟨_, rfl⟩
  have HI := hidP hI
  clear hI
  refine wp_loop_n I ?_ es.length _ _ ?_
  · intro k T2 wr hIk
    rw [HI.out] at hIk
    obtain ⟨j, hjk, hK, u492, wv, u58, hw, hca⟩ := hIk
    have hT : T2.size = 735 := hK.1.trans hT0
    have a63 := hK.at' hT 63 (by decide) t63 (by decide) (by decide)
    have a65 := hK.at' hT 65 (by decide) t65 (by decide) (by decide)
    have a490 := hK.at' hT 490 (by decide) t490 (by decide) (by decide)
    have a491 := hK.at' hT 491 (by decide) t491 (by decide) (by decide)
    have a58 : T2[58]'(by omega) = _ := at_of _ u58
    have a492 : T2[492]'(by omega) = _ := at_of _ u492
    have HK := hidP hK
    clear hK u58 u492
    have HW := hidP hw
    have HCA := hidP hca
    clear hw hca
    go_upto_if 493 with fail
    refine wp_cond_at (decide (j < es.length)) (by simp [Act.eval, hT]) (fun h => ?_) (fun h => ?_)
    · have hj : j < es.length := of_decide_eq_true h
      clear h
      have hvv : v = .slice (some ⟨E, 0, none⟩) es.length ec := by
        rcases HV.out with h | h
        · exact h
        · rw [h] at hj; simp at hj
      have hownr : wr.ownsRow B 40 3 (.slice (some ⟨E, 0, none⟩) es.length ec) es.length (evsV es) := by
        rw [← hvv]
        exact own_of_block HO0.out fun g hg => HW.out.2.2.block g (own_lt3 HO0.out hg) (HEC.out g hg)
      obtain ⟨x0, x1, x2⟩ := evs_cell hownr j hj
      obtain ⟨e, hee⟩ : ∃ e, e = es[j] := ⟨_, rfl⟩
      have hel : e.l ≤ 2 := by rw [hee]; exact HSM.out _ (List.getElem_mem hj)
      rw [← hee] at x0 x1 x2
      have i1 : (0 : Int) ≤ (j : Int) := by omega
      have i2 : (j : Int) < (es.length : Int) := by omega
      obtain ⟨lb, hlb⟩ : ∃ lb, lb = labelB e.l := ⟨_, rfl⟩
      rw [labelV, ← hlb] at x2
      have halc : ∀ w, Calls Yba.prog 16 #[.string lb] w fun e' w' => e' = .returned (.int .i64 e.l) ∧ w' = w := fun w => by rw [hlb]; exact alcode0 e.l hel w
      have HALC := hidP halc
      have hst := selE_take r i es j hj
      rw [← hee] at hst
      have HST := hidP hst
      clear hst hownr hee hlb halc
      refine gen_frame (fun T2 => T2.size = 735 ∧ Keeps 492 734 [58, 69, 70] T T2 ∧ T2[58]?.getD undef = wv ∧ T2[492]?.getD undef = .int .i64 j) ⟨by simp [hT], ?_, by simp [hT, a63, a65, a490, a491, a58, a492], by simp [hT, a63, a65, a490, a491, a58, a492]⟩ ?_
      · repeat (refine Keeps.put ?_ _ _ (by first | exact .inr ⟨by decide, by decide⟩ | exact .inl (by decide)))
        exact HK.out
      clear a63 a65 a490 a491 a58 a492 HK hT
      clear T2
      rintro T2 ⟨hT, hK, u58, u492⟩
      have a63 := hK.at' hT 63 (by decide) t63 (by decide) (by decide)
      have a65 := hK.at' hT 65 (by decide) t65 (by decide) (by decide)
      have a490 := hK.at' hT 490 (by decide) t490 (by decide) (by decide)
      have a491 := hK.at' hT 491 (by decide) t491 (by decide) (by decide)
      have a58 : T2[58]'(by omega) = _ := at_of _ u58
      have a492 : T2[492]'(by omega) = _ := at_of _ u492
      have HK := hidP hK
      clear hK u58 u492
      rw [hvv] at a490
      go_upto_region 126 with fail
      refine gen_both (fun T2 wa => T2.size = 735 ∧ Keeps 492 734 [58, 69, 70] T T2 ∧ T2[58]?.getD undef = wv ∧ T2[492]?.getD undef = .int .i64 j ∧ T2[70]?.getD undef = .pointer (some ⟨wr.heap.size, 0, none⟩) ∧ Row wa wr.heap.size 40 3 (fun k => ([.int .i64 e.p, .int .i64 e.t, .string lb] : List Value).getD k undef) ∧ Only (fun _ => False) wr wa) ⟨by simp [hT], ?_, by simp [hT, a58], by simp [hT, a492], by simp [hT], Row.newL wr [.int .i64 e.p, .int .i64 e.t, .string lb] 40, Only.refl.alloc _⟩ ?_
      · repeat (refine Keeps.put ?_ _ _ (by first | exact .inr ⟨by decide, by decide⟩ | exact .inl (by decide)))
        exact HK.out
      clear a63 a65 a490 a491 a58 a492 HK hT x0 x1 x2
      clear T2
      rintro T2 wa ⟨hT, hK, u58, u492, u70, hrow, ho1⟩
      obtain ⟨eb, heb⟩ : ∃ eb, eb = wr.heap.size := ⟨_, rfl⟩
      rw [← heb] at u70 hrow
      have c0 : wa.cell? ⟨eb, 0, none⟩ = some (.int .i64 e.p) := hrow.cell 0 (by omega)
      have c1 : wa.cell? ⟨eb, 1, none⟩ = some (.int .i64 e.t) := hrow.cell 1 (by omega)
      have c2 : wa.cell? ⟨eb, 2, none⟩ = some (.string lb) := hrow.cell 2 (by omega)
      have s70 := u70
      have s63 := hK.get t63 (by decide) (by decide)
      have s65 := hK.get t65 (by decide) (by decide)
      have s58 := u58
      have s492 := u492
      have HK := hidP hK
      have HWA := hidP (HW.out.same ho1)
      have HCAA := hidP (HCA.out.only ho1 (fun h => h))
      have hszA : w0.heap.size ≤ wa.heap.size := HWA.out.2.2.size
      clear hK ho1 hrow
      rename_i K126 hK126
      have HK126 := hidP hK126
      clear hK126
      obtain ⟨b, hb⟩ : ∃ b, b = (decide (e.t = r) && decide (e.p = i)) := ⟨_, rfl⟩
      have HB := hidP hb
      clear hb
      suffices merge : ∀ T2, T2.size = 735 ∧ Keeps 492 734 [58, 69, 70] T T2 ∧ T2[58]?.getD undef = wv ∧ T2[492]?.getD undef = .int .i64 j ∧ T2[70]?.getD undef = .pointer (some ⟨eb, 0, none⟩) ∧ T2[505]?.getD undef = .bool b → K126 ⟨T2, []⟩ wa by
        have MERGE := hidP merge
        clear merge
        by_cases h1 : e.t = r
        · have hne1 : ((e.t : Int) == (r : Int)) = true := by simp [h1]
          by_cases h2 : e.p = i
          · have hne2 : ((e.p : Int) == (i : Int)) = true := by simp [h2]
            refine region_plain _ 735 hT [.pointer (some ⟨eb, 1, none⟩), .int .i64 e.t, .int .i64 r, .bool true, .bool true, .pointer (some ⟨eb, 0, none⟩), .int .i64 e.p, .int .i64 i, .bool true, .bool true] wa (by decide) (by decide) ?_ ?_
            · intro i hi U hU hK hprev
              have hi' : i < 10 := hi
              rcases (by omega : i = 0 ∨ i = 1 ∨ i = 2 ∨ i = 3 ∨ i = 4 ∨ i = 5 ∨ i = 6 ∨ i = 7 ∨ i = 8 ∨ i = 9) with rfl | rfl | rfl | rfl | rfl | rfl | rfl | rfl | rfl | rfl
              · have hxs : U[70]?.getD undef = .pointer (some ⟨eb, 0, none⟩) := kept_of hK 70 (by decide) (by assumption)
                refine .inl ⟨want_none rfl, ?_⟩
                refine step_of_run (v := .pointer (some ⟨eb, 1, none⟩)) (w' := _) ?_ ⟨rfl, _, rfl, (fun h => by cases h), rfl⟩
                simp [execOp, go_sem, hxs, c1, c0, hne1, hne2]
              · have d0 : U[496]?.getD undef = .pointer (some ⟨eb, 1, none⟩) := slot_of (hprev 0 (by decide)) rfl
                refine .inl ⟨want_none rfl, ?_⟩
                refine step_of_run (v := .int .i64 e.t) (w' := _) ?_ ⟨rfl, _, rfl, (fun h => by cases h), rfl⟩
                simp [execOp, go_sem, d0, c1, c0, hne1, hne2]
              · have hx63 : U[63]?.getD undef = .int .i64 r := kept_of hK 63 (by decide) (by assumption)
                refine .inl ⟨want_none rfl, ?_⟩
                refine step_of_run (v := .int .i64 r) (w' := _) ?_ ⟨rfl, _, rfl, (fun h => by cases h), rfl⟩
                simp [execOp, go_sem, hx63, c1, c0, hne1, hne2]
              · have d1 : U[497]?.getD undef = .int .i64 e.t := slot_of (hprev 1 (by decide)) rfl
                have d2 : U[498]?.getD undef = .int .i64 r := slot_of (hprev 2 (by decide)) rfl
                refine .inl ⟨want_none rfl, ?_⟩
                refine step_of_run (v := .bool true) (w' := _) ?_ ⟨rfl, _, rfl, (fun h => by cases h), rfl⟩
                simp [execOp, go_sem, d1, d2, c1, c0, hne1, hne2]
              · have d3 : U[499]?.getD undef = .bool true := slot_of (hprev 3 (by decide)) rfl
                refine .inl ⟨want_none rfl, ?_⟩
                refine step_of_run (v := .bool true) (w' := _) ?_ ⟨rfl, _, rfl, (fun h => by cases h), rfl⟩
                simp [execOp, go_sem, d3, c1, c0, hne1, hne2]
              · have hxs : U[70]?.getD undef = .pointer (some ⟨eb, 0, none⟩) := kept_of hK 70 (by decide) (by assumption)
                refine .inl ⟨want_of (d := 500) rfl rfl (by omega) (slot_of (hprev 4 (by decide)) rfl), ?_⟩
                refine step_of_run (v := .pointer (some ⟨eb, 0, none⟩)) (w' := _) ?_ ⟨rfl, _, rfl, (fun h => by cases h), rfl⟩
                simp [execOp, go_sem, hxs, c1, c0, hne1, hne2]
              · have d5 : U[501]?.getD undef = .pointer (some ⟨eb, 0, none⟩) := slot_of (hprev 5 (by decide)) rfl
                refine .inl ⟨want_of (d := 500) rfl rfl (by omega) (slot_of (hprev 4 (by decide)) rfl), ?_⟩
                refine step_of_run (v := .int .i64 e.p) (w' := _) ?_ ⟨rfl, _, rfl, (fun h => by cases h), rfl⟩
                simp [execOp, go_sem, d5, c1, c0, hne1, hne2]
              · have hx65 : U[65]?.getD undef = .int .i64 i := kept_of hK 65 (by decide) (by assumption)
                refine .inl ⟨want_of (d := 500) rfl rfl (by omega) (slot_of (hprev 4 (by decide)) rfl), ?_⟩
                refine step_of_run (v := .int .i64 i) (w' := _) ?_ ⟨rfl, _, rfl, (fun h => by cases h), rfl⟩
                simp [execOp, go_sem, hx65, c1, c0, hne1, hne2]
              · have d6 : U[502]?.getD undef = .int .i64 e.p := slot_of (hprev 6 (by decide)) rfl
                have d7 : U[503]?.getD undef = .int .i64 i := slot_of (hprev 7 (by decide)) rfl
                refine .inl ⟨want_of (d := 500) rfl rfl (by omega) (slot_of (hprev 4 (by decide)) rfl), ?_⟩
                refine step_of_run (v := .bool true) (w' := _) ?_ ⟨rfl, _, rfl, (fun h => by cases h), rfl⟩
                simp [execOp, go_sem, d6, d7, c1, c0, hne1, hne2]
              · have d4 : U[500]?.getD undef = .bool true := slot_of (hprev 4 (by decide)) rfl
                have d8 : U[504]?.getD undef = .bool true := slot_of (hprev 8 (by decide)) rfl
                refine .inl ⟨want_none rfl, ?_⟩
                refine step_of_run (v := .bool true) (w' := _) ?_ ⟨rfl, _, rfl, (fun h => by cases h), rfl⟩
                simp [execOp, go_sem, d4, d8, c1, c0, hne1, hne2]
            · intro U hU hKU hall
              have b505 : U[505]?.getD undef = .bool true := slot_of (hall 9 (by decide)) rfl
              exact MERGE.out U ⟨hU, Keeps.trans HK.out (Kept.keeps (lo := 492) (hi := 734) (vs := [58, 69, 70]) hKU (hU.trans hT.symm) (by decide)), kept_of hKU 58 (by decide) s58, kept_of hKU 492 (by decide) s492, kept_of hKU 70 (by decide) s70, b505.trans (by rw [HB.out]; simp [h1, h2])⟩
          · have hne2 : ((e.p : Int) == (i : Int)) = false := by simp; omega
            refine region_plain _ 735 hT [.pointer (some ⟨eb, 1, none⟩), .int .i64 e.t, .int .i64 r, .bool true, .bool true, .pointer (some ⟨eb, 0, none⟩), .int .i64 e.p, .int .i64 i, .bool false, .bool false] wa (by decide) (by decide) ?_ ?_
            · intro i hi U hU hK hprev
              have hi' : i < 10 := hi
              rcases (by omega : i = 0 ∨ i = 1 ∨ i = 2 ∨ i = 3 ∨ i = 4 ∨ i = 5 ∨ i = 6 ∨ i = 7 ∨ i = 8 ∨ i = 9) with rfl | rfl | rfl | rfl | rfl | rfl | rfl | rfl | rfl | rfl
              · have hxs : U[70]?.getD undef = .pointer (some ⟨eb, 0, none⟩) := kept_of hK 70 (by decide) (by assumption)
                refine .inl ⟨want_none rfl, ?_⟩
                refine step_of_run (v := .pointer (some ⟨eb, 1, none⟩)) (w' := _) ?_ ⟨rfl, _, rfl, (fun h => by cases h), rfl⟩
                simp [execOp, go_sem, hxs, c1, c0, hne1, hne2]
              · have d0 : U[496]?.getD undef = .pointer (some ⟨eb, 1, none⟩) := slot_of (hprev 0 (by decide)) rfl
                refine .inl ⟨want_none rfl, ?_⟩
                refine step_of_run (v := .int .i64 e.t) (w' := _) ?_ ⟨rfl, _, rfl, (fun h => by cases h), rfl⟩
                simp [execOp, go_sem, d0, c1, c0, hne1, hne2]
              · have hx63 : U[63]?.getD undef = .int .i64 r := kept_of hK 63 (by decide) (by assumption)
                refine .inl ⟨want_none rfl, ?_⟩
                refine step_of_run (v := .int .i64 r) (w' := _) ?_ ⟨rfl, _, rfl, (fun h => by cases h), rfl⟩
                simp [execOp, go_sem, hx63, c1, c0, hne1, hne2]
              · have d1 : U[497]?.getD undef = .int .i64 e.t := slot_of (hprev 1 (by decide)) rfl
                have d2 : U[498]?.getD undef = .int .i64 r := slot_of (hprev 2 (by decide)) rfl
                refine .inl ⟨want_none rfl, ?_⟩
                refine step_of_run (v := .bool true) (w' := _) ?_ ⟨rfl, _, rfl, (fun h => by cases h), rfl⟩
                simp [execOp, go_sem, d1, d2, c1, c0, hne1, hne2]
              · have d3 : U[499]?.getD undef = .bool true := slot_of (hprev 3 (by decide)) rfl
                refine .inl ⟨want_none rfl, ?_⟩
                refine step_of_run (v := .bool true) (w' := _) ?_ ⟨rfl, _, rfl, (fun h => by cases h), rfl⟩
                simp [execOp, go_sem, d3, c1, c0, hne1, hne2]
              · have hxs : U[70]?.getD undef = .pointer (some ⟨eb, 0, none⟩) := kept_of hK 70 (by decide) (by assumption)
                refine .inl ⟨want_of (d := 500) rfl rfl (by omega) (slot_of (hprev 4 (by decide)) rfl), ?_⟩
                refine step_of_run (v := .pointer (some ⟨eb, 0, none⟩)) (w' := _) ?_ ⟨rfl, _, rfl, (fun h => by cases h), rfl⟩
                simp [execOp, go_sem, hxs, c1, c0, hne1, hne2]
              · have d5 : U[501]?.getD undef = .pointer (some ⟨eb, 0, none⟩) := slot_of (hprev 5 (by decide)) rfl
                refine .inl ⟨want_of (d := 500) rfl rfl (by omega) (slot_of (hprev 4 (by decide)) rfl), ?_⟩
                refine step_of_run (v := .int .i64 e.p) (w' := _) ?_ ⟨rfl, _, rfl, (fun h => by cases h), rfl⟩
                simp [execOp, go_sem, d5, c1, c0, hne1, hne2]
              · have hx65 : U[65]?.getD undef = .int .i64 i := kept_of hK 65 (by decide) (by assumption)
                refine .inl ⟨want_of (d := 500) rfl rfl (by omega) (slot_of (hprev 4 (by decide)) rfl), ?_⟩
                refine step_of_run (v := .int .i64 i) (w' := _) ?_ ⟨rfl, _, rfl, (fun h => by cases h), rfl⟩
                simp [execOp, go_sem, hx65, c1, c0, hne1, hne2]
              · have d6 : U[502]?.getD undef = .int .i64 e.p := slot_of (hprev 6 (by decide)) rfl
                have d7 : U[503]?.getD undef = .int .i64 i := slot_of (hprev 7 (by decide)) rfl
                refine .inl ⟨want_of (d := 500) rfl rfl (by omega) (slot_of (hprev 4 (by decide)) rfl), ?_⟩
                refine step_of_run (v := .bool false) (w' := _) ?_ ⟨rfl, _, rfl, (fun h => by cases h), rfl⟩
                simp [execOp, go_sem, d6, d7, c1, c0, hne1, hne2]
              · have d4 : U[500]?.getD undef = .bool true := slot_of (hprev 4 (by decide)) rfl
                have d8 : U[504]?.getD undef = .bool false := slot_of (hprev 8 (by decide)) rfl
                refine .inl ⟨want_none rfl, ?_⟩
                refine step_of_run (v := .bool false) (w' := _) ?_ ⟨rfl, _, rfl, (fun h => by cases h), rfl⟩
                simp [execOp, go_sem, d4, d8, c1, c0, hne1, hne2]
            · intro U hU hKU hall
              have b505 : U[505]?.getD undef = .bool false := slot_of (hall 9 (by decide)) rfl
              exact MERGE.out U ⟨hU, Keeps.trans HK.out (Kept.keeps (lo := 492) (hi := 734) (vs := [58, 69, 70]) hKU (hU.trans hT.symm) (by decide)), kept_of hKU 58 (by decide) s58, kept_of hKU 492 (by decide) s492, kept_of hKU 70 (by decide) s70, b505.trans (by rw [HB.out]; simp [h1, h2])⟩
        · have hne1 : ((e.t : Int) == (r : Int)) = false := by simp; omega
          refine region_plain _ 735 hT [.pointer (some ⟨eb, 1, none⟩), .int .i64 e.t, .int .i64 r, .bool false, .bool false, undef, undef, undef, undef, .bool false] wa (by decide) (by decide) ?_ ?_
          · intro i hi U hU hK hprev
            have hi' : i < 10 := hi
            rcases (by omega : i = 0 ∨ i = 1 ∨ i = 2 ∨ i = 3 ∨ i = 4 ∨ i = 5 ∨ i = 6 ∨ i = 7 ∨ i = 8 ∨ i = 9) with rfl | rfl | rfl | rfl | rfl | rfl | rfl | rfl | rfl | rfl
            · have hxs : U[70]?.getD undef = .pointer (some ⟨eb, 0, none⟩) := kept_of hK 70 (by decide) (by assumption)
              refine .inl ⟨want_none rfl, ?_⟩
              refine step_of_run (v := .pointer (some ⟨eb, 1, none⟩)) (w' := _) ?_ ⟨rfl, _, rfl, (fun h => by cases h), rfl⟩
              simp [execOp, go_sem, hxs, c1, c0, hne1]
            · have d0 : U[496]?.getD undef = .pointer (some ⟨eb, 1, none⟩) := slot_of (hprev 0 (by decide)) rfl
              refine .inl ⟨want_none rfl, ?_⟩
              refine step_of_run (v := .int .i64 e.t) (w' := _) ?_ ⟨rfl, _, rfl, (fun h => by cases h), rfl⟩
              simp [execOp, go_sem, d0, c1, c0, hne1]
            · have hx63 : U[63]?.getD undef = .int .i64 r := kept_of hK 63 (by decide) (by assumption)
              refine .inl ⟨want_none rfl, ?_⟩
              refine step_of_run (v := .int .i64 r) (w' := _) ?_ ⟨rfl, _, rfl, (fun h => by cases h), rfl⟩
              simp [execOp, go_sem, hx63, c1, c0, hne1]
            · have d1 : U[497]?.getD undef = .int .i64 e.t := slot_of (hprev 1 (by decide)) rfl
              have d2 : U[498]?.getD undef = .int .i64 r := slot_of (hprev 2 (by decide)) rfl
              refine .inl ⟨want_none rfl, ?_⟩
              refine step_of_run (v := .bool false) (w' := _) ?_ ⟨rfl, _, rfl, (fun h => by cases h), rfl⟩
              simp [execOp, go_sem, d1, d2, c1, c0, hne1]
            · have d3 : U[499]?.getD undef = .bool false := slot_of (hprev 3 (by decide)) rfl
              refine .inl ⟨want_none rfl, ?_⟩
              refine step_of_run (v := .bool false) (w' := _) ?_ ⟨rfl, _, rfl, (fun h => by cases h), rfl⟩
              simp [execOp, go_sem, d3, c1, c0, hne1]
            · exact .inr ⟨skip_of (d := 500) rfl rfl (by omega) (slot_of (hprev 4 (by decide)) rfl), rfl⟩
            · exact .inr ⟨skip_of (d := 500) rfl rfl (by omega) (slot_of (hprev 4 (by decide)) rfl), rfl⟩
            · exact .inr ⟨skip_of (d := 500) rfl rfl (by omega) (slot_of (hprev 4 (by decide)) rfl), rfl⟩
            · exact .inr ⟨skip_of (d := 500) rfl rfl (by omega) (slot_of (hprev 4 (by decide)) rfl), rfl⟩
            · have d4 : U[500]?.getD undef = .bool false := slot_of (hprev 4 (by decide)) rfl
              have d8 : U[504]?.getD undef = undef := slot_of (hprev 8 (by decide)) rfl
              refine .inl ⟨want_none rfl, ?_⟩
              refine step_of_run (v := .bool false) (w' := _) ?_ ⟨rfl, _, rfl, (fun h => by cases h), rfl⟩
              simp [execOp, go_sem, d4, d8, c1, c0, hne1]
          · intro U hU hKU hall
            have b505 : U[505]?.getD undef = .bool false := slot_of (hall 9 (by decide)) rfl
            exact MERGE.out U ⟨hU, Keeps.trans HK.out (Kept.keeps (lo := 492) (hi := 734) (vs := [58, 69, 70]) hKU (hU.trans hT.symm) (by decide)), kept_of hKU 58 (by decide) s58, kept_of hKU 492 (by decide) s492, kept_of hKU 70 (by decide) s70, b505.trans (by rw [HB.out]; simp [h1])⟩
      clear s63 s65 s58 s70 s492 u58 u70 u492 HK hT
      clear T2
      rintro T2 ⟨hT, hK, u58, u492, u70, u505⟩
      have s58 := u58
      have s70 := u70
      have s492 := u492
      have a63 := hK.at' hT 63 (by decide) t63 (by decide) (by decide)
      have a65 := hK.at' hT 65 (by decide) t65 (by decide) (by decide)
      have a490 := hK.at' hT 490 (by decide) t490 (by decide) (by decide)
      have a491 := hK.at' hT 491 (by decide) t491 (by decide) (by decide)
      have a58 : T2[58]'(by omega) = _ := at_of _ u58
      have a492 : T2[492]'(by omega) = _ := at_of _ u492
      have a70 : T2[70]'(by omega) = _ := at_of _ u70
      have a505 : T2[505]'(by omega) = _ := at_of _ u505
      have HK := hidP hK
      clear hK u58 u492 u70 u505
      refine HK126.out _ _ ?_
      have hlen : (xs ++ (selE r i (es.take j)).flatMap Ev.code).length ≤ 90000 := by
        have h1 : (selE r i (es.take j)).length ≤ 1000 := by
          unfold selE
          exact Nat.le_trans (List.length_filter_le _ _) (by rw [List.length_take]; omega)
        rw [List.length_append, codes_len]
        omega
      go_upto_if 505 with fail
      refine wp_cond_at b (by simp [Act.eval, hT, a505]) (fun h => ?_) (fun h => ?_)
      · have hBwa : B ≤ wa.heap.size := by omega
        refine region_chain2 (by kernel_rfl) _ 735 hT [some (wv), some (.pointer (some ⟨eb, 0, none⟩)), some (.int .i64 e.p), some (.pointer (some ⟨eb, 1, none⟩)), some (.int .i64 e.t), some (.pointer (some ⟨eb, 2, none⟩)), some (.string lb), some (.int .i64 e.l), none, none, none] [8, 9, 10] (fun vs wq => match vs with | [] => wq = wa.drew | [v] => v = .slice (some ⟨wa.heap.size, 0, none⟩) 3 3 ∧ wq = wa.drew.alloc (.cells #[.int .i64 e.p, .int .i64 e.t, .int .i64 e.l] 3) | [_, u] => Want B CA w0 wq u (xs ++ (selE r i (es.take j)).flatMap Ev.code ++ [(e.p : Int), (e.t : Int), (e.l : Int)]) ∧ Row wq CA 78 36 m | [_, u, x] => x = u ∧ Want B CA w0 wq u (xs ++ (selE r i (es.take j)).flatMap Ev.code ++ [(e.p : Int), (e.t : Int), (e.l : Int)]) ∧ Row wq CA 78 36 m | _ => True) (by decide) (by decide) (by decide) (by decide) (by decide) (by decide) ?_ ?_ ?_ rfl
        · intro i hi U vs w1 hia hU hK hSt hold hanc hdep
          have hi' : i < 11 := hi
          rcases (by omega : i = 0 ∨ i = 1 ∨ i = 2 ∨ i = 3 ∨ i = 4 ∨ i = 5 ∨ i = 6 ∨ i = 7 ∨ i = 8 ∨ i = 9 ∨ i = 10) with rfl | rfl | rfl | rfl | rfl | rfl | rfl | rfl | rfl | rfl | rfl
          · have q0 : True := trivial
            have q1 : True := trivial
            have hvl := hanc 1 (by decide) (by decide)
            have q2 : U[58]?.getD undef = wv := (slot_of (hold 2 (by omega) (by decide)) rfl).trans ((slotv_at _ _ 10 58 rfl).trans s58)
            refine step_of_run (v := wv) (w' := _) ?_ ⟨rfl, _, rfl, (fun h => by cases h), rfl⟩
            simp [execOp, go_sem, q0, q1, q2]
          · have hvl := hanc 0 (by decide) (by decide)
            have hw1 : w1 = wa.drew := by
              match vs, hSt, hvl with
              | [], h, _ => exact h
            subst hw1
            have q0 : wa.drew.cell? ⟨eb, 0, none⟩ = some (.int .i64 e.p) := c0
            have q1 : wa.drew.cell? ⟨eb, 1, none⟩ = some (.int .i64 e.t) := c1
            have q2 : wa.drew.cell? ⟨eb, 2, none⟩ = some (.string lb) := c2
            have hx70 : U[70]?.getD undef = .pointer (some ⟨eb, 0, none⟩) := kept_of hK 70 (by decide) (by assumption)
            refine step_of_run (v := .pointer (some ⟨eb, 0, none⟩)) (w' := _) ?_ ⟨rfl, _, rfl, (fun h => by cases h), rfl⟩
            simp [execOp, go_sem, hx70, q0, q1, q2]
          · have hvl := hanc 0 (by decide) (by decide)
            have hw1 : w1 = wa.drew := by
              match vs, hSt, hvl with
              | [], h, _ => exact h
            subst hw1
            have q0 : wa.drew.cell? ⟨eb, 0, none⟩ = some (.int .i64 e.p) := c0
            have q1 : wa.drew.cell? ⟨eb, 1, none⟩ = some (.int .i64 e.t) := c1
            have q2 : wa.drew.cell? ⟨eb, 2, none⟩ = some (.string lb) := c2
            have d1 : U[507]?.getD undef = .pointer (some ⟨eb, 0, none⟩) := slot_of (chain_of (hdep ⟨1, .data⟩ (by simp) rfl (by decide)) rfl) rfl
            refine step_of_run (v := .int .i64 e.p) (w' := _) ?_ ⟨rfl, _, rfl, (fun h => by cases h), rfl⟩
            simp [execOp, go_sem, d1, q0, q1, q2]
          · have hvl := hanc 0 (by decide) (by decide)
            have hw1 : w1 = wa.drew := by
              match vs, hSt, hvl with
              | [], h, _ => exact h
            subst hw1
            have q0 : wa.drew.cell? ⟨eb, 0, none⟩ = some (.int .i64 e.p) := c0
            have q1 : wa.drew.cell? ⟨eb, 1, none⟩ = some (.int .i64 e.t) := c1
            have q2 : wa.drew.cell? ⟨eb, 2, none⟩ = some (.string lb) := c2
            have hx70 : U[70]?.getD undef = .pointer (some ⟨eb, 0, none⟩) := kept_of hK 70 (by decide) (by assumption)
            refine step_of_run (v := .pointer (some ⟨eb, 1, none⟩)) (w' := _) ?_ ⟨rfl, _, rfl, (fun h => by cases h), rfl⟩
            simp [execOp, go_sem, hx70, q0, q1, q2]
          · have hvl := hanc 0 (by decide) (by decide)
            have hw1 : w1 = wa.drew := by
              match vs, hSt, hvl with
              | [], h, _ => exact h
            subst hw1
            have q0 : wa.drew.cell? ⟨eb, 0, none⟩ = some (.int .i64 e.p) := c0
            have q1 : wa.drew.cell? ⟨eb, 1, none⟩ = some (.int .i64 e.t) := c1
            have q2 : wa.drew.cell? ⟨eb, 2, none⟩ = some (.string lb) := c2
            have d3 : U[509]?.getD undef = .pointer (some ⟨eb, 1, none⟩) := slot_of (chain_of (hdep ⟨3, .data⟩ (by simp) rfl (by decide)) rfl) rfl
            refine step_of_run (v := .int .i64 e.t) (w' := _) ?_ ⟨rfl, _, rfl, (fun h => by cases h), rfl⟩
            simp [execOp, go_sem, d3, q0, q1, q2]
          · have hvl := hanc 0 (by decide) (by decide)
            have hw1 : w1 = wa.drew := by
              match vs, hSt, hvl with
              | [], h, _ => exact h
            subst hw1
            have q0 : wa.drew.cell? ⟨eb, 0, none⟩ = some (.int .i64 e.p) := c0
            have q1 : wa.drew.cell? ⟨eb, 1, none⟩ = some (.int .i64 e.t) := c1
            have q2 : wa.drew.cell? ⟨eb, 2, none⟩ = some (.string lb) := c2
            have hx70 : U[70]?.getD undef = .pointer (some ⟨eb, 0, none⟩) := kept_of hK 70 (by decide) (by assumption)
            refine step_of_run (v := .pointer (some ⟨eb, 2, none⟩)) (w' := _) ?_ ⟨rfl, _, rfl, (fun h => by cases h), rfl⟩
            simp [execOp, go_sem, hx70, q0, q1, q2]
          · have hvl := hanc 0 (by decide) (by decide)
            have hw1 : w1 = wa.drew := by
              match vs, hSt, hvl with
              | [], h, _ => exact h
            subst hw1
            have q0 : wa.drew.cell? ⟨eb, 0, none⟩ = some (.int .i64 e.p) := c0
            have q1 : wa.drew.cell? ⟨eb, 1, none⟩ = some (.int .i64 e.t) := c1
            have q2 : wa.drew.cell? ⟨eb, 2, none⟩ = some (.string lb) := c2
            have d5 : U[511]?.getD undef = .pointer (some ⟨eb, 2, none⟩) := slot_of (chain_of (hdep ⟨5, .data⟩ (by simp) rfl (by decide)) rfl) rfl
            refine step_of_run (v := .string lb) (w' := _) ?_ ⟨rfl, _, rfl, (fun h => by cases h), rfl⟩
            simp [execOp, go_sem, d5, q0, q1, q2]
          · have hvl := hanc 0 (by decide) (by decide)
            have hw1 : w1 = wa.drew := by
              match vs, hSt, hvl with
              | [], h, _ => exact h
            subst hw1
            have q0 : wa.drew.cell? ⟨eb, 0, none⟩ = some (.int .i64 e.p) := c0
            have q1 : wa.drew.cell? ⟨eb, 1, none⟩ = some (.int .i64 e.t) := c1
            have q2 : wa.drew.cell? ⟨eb, 2, none⟩ = some (.string lb) := c2
            have d6 : U[512]?.getD undef = .string lb := slot_of (chain_of (hdep ⟨6, .data⟩ (by simp) rfl (by decide)) rfl) rfl
            refine step_of_call (f := 16) (args := #[.string lb]) (w' := wa.drew) ?_ ((HALC.out wa.drew).mono ?_)
            · simp [execOp, go_sem, d6]
            · rintro e' w8 ⟨rfl, hw8⟩
              exact ⟨_, rfl, hw8, _, rfl, (fun h => by cases h), rfl⟩
          · exact absurd (by decide) hia
          · exact absurd (by decide) hia
          · exact absurd (by decide) hia
        · intro j hj hi U vs w1 hlen hU hK hSt hdep hprev
          have hj' : j < 3 := hj
          rcases (by omega : j = 0 ∨ j = 1 ∨ j = 2) with rfl | rfl | rfl
          · obtain rfl : vs = [] := List.eq_nil_of_length_eq_zero hlen
            have d2 : U[508]?.getD undef = .int .i64 e.p := slot_of (chain_of (hdep ⟨2, .data⟩ (by simp) rfl (by decide)) rfl) rfl
            have d4 : U[510]?.getD undef = .int .i64 e.t := slot_of (chain_of (hdep ⟨4, .data⟩ (by simp) rfl (by decide)) rfl) rfl
            have d7 : U[513]?.getD undef = .int .i64 e.l := slot_of (chain_of (hdep ⟨7, .data⟩ (by simp) rfl (by decide)) rfl) rfl
            have hw1 : w1 = wa.drew := hSt
            subst hw1
            refine step_of_run (v := .slice (some ⟨wa.heap.size, 0, none⟩) 3 3) (w' := wa.drew.alloc (.cells #[.int .i64 e.p, .int .i64 e.t, .int .i64 e.l] 3)) ?_ ⟨_, rfl, (fun h => by cases h), rfl, rfl⟩
            simp [execOp, go_sem, d2, d4, d7]
          · obtain ⟨v0, rfl⟩ : ∃ v0, vs = [v0] := by
              match vs, hlen with | [v0], _ => exact ⟨v0, rfl⟩
            have p0 : U[514]?.getD undef = v0 := slot_of (hprev 0 (by decide)) rfl
            have d0 : U[506]?.getD undef = wv := slot_of (chain_of (hdep ⟨0, .data⟩ (by simp) rfl (by decide)) rfl) rfl
            obtain ⟨rfl, hw1⟩ := hSt
            subst hw1
            have hwd : Want B CA w0 wa.drew wv (xs ++ (selE r i (es.take j)).flatMap Ev.code) := HWA.out.same Only.refl.drew
            have hcd : Row wa.drew CA 78 36 m := HCAA.out.drew
            refine wp_append_lies _ (.tmp 506) (.tmp 514) 29 rfl B 3 i0 (.int .i64 0) 1 8 Yba.underlying29 hi0 hz0 hz1 hz2 rfl (by decide) wv (xs ++ (selE r i (es.take j)).flatMap Ev.code).length (intsV (xs ++ (selE r i (es.take j)).flatMap Ev.code)) ?_ (hwd.1.alloc _) ⟨wa.heap.size, 0, none⟩ 3 3 (intsV [(e.p : Int), (e.t : Int), (e.l : Int)]) ?_ rfl (World.news_of_block (heap_alloc_new wa.drew (.cells #[.int .i64 e.p, .int .i64 e.t, .int .i64 e.l] 3))) ?_ (by decide) ?_ ?_ ?_ _ rfl ?_
            · show U.getD 506 undef = wv
              simpa using d0
            · show U.getD 514 undef = _
              simpa using p0
            · intro u hu
              simp [intsV] at hu
              rcases hu with rfl | rfl | rfl <;> rfl
            · show _ ≤ 9223372036854775807
              omega
            · omega
            · have : wa.drew.heap.size = wa.heap.size := rfl
              simp; omega
            · intro gg cp w8 h2 h3 h4 h5
              have hww := hwd.app (N := (xs ++ (selE r i (es.take j)).flatMap Ev.code).length) (k := 3) (ys := [(e.p : Int), (e.t : Int), (e.l : Int)]) rfl rfl h2 h3 (by rcases h4 with h | h; exact .inl h; exact .inr (by rw [h]; simp))
              have hog := grown_own hwd.1 (Only.refl.alloc _) h2 h3
              exact ⟨_, rfl, (fun h => by cases h), hww, Want.row hcd hwd hCAlt hog⟩
          · obtain ⟨v0, v1, rfl⟩ : ∃ v0 v1, vs = [v0, v1] := by
              match vs, hlen with | [v0, v1], _ => exact ⟨v0, v1, rfl⟩
            have p0 : U[514]?.getD undef = v0 := slot_of (hprev 0 (by decide)) rfl
            have p1 : U[515]?.getD undef = v1 := slot_of (hprev 1 (by decide)) rfl
            obtain ⟨hwv, hcv⟩ := hSt
            refine step_of_run (v := v1) (w' := w1) ?_ ⟨_, rfl, (fun h => by cases h), rfl, hwv, hcv⟩
            simp [execOp, go_sem, p0, p1]
        · intro U vs w4 hU hKU hlen3 hSt hval hall
          obtain ⟨u4, hw4, hca4, e58⟩ : ∃ u4, Want B CA w0 w4 u4 (xs ++ (selE r i (es.take j)).flatMap Ev.code ++ [(e.p : Int), (e.t : Int), (e.l : Int)]) ∧ Row w4 CA 78 36 m ∧ U[58]?.getD undef = u4 := by
            match vs, hlen3, hSt, hval with
            | [_, u, x], _, h, hval => exact ⟨u, h.2.1, h.2.2, (slot_of (hval 2 (by decide)) rfl).trans h.1⟩
          have b492 : U[492]'(by omega) = .int .i64 j := at_of _ (kept_of hKU 492 (by decide) s492)
          have b58 : U[58]'(by omega) = u4 := at_of _ e58
          have hK4 := Keeps.trans HK.out (Kept.keeps (lo := 492) (hi := 734) (vs := [58, 69, 70]) hKU (hU.trans hT.symm) (by decide))
          have HK4 := hidP hK4
          have HW4 := hidP hw4
          have HCA4 := hidP hca4
          clear hKU hlen3 hSt hval hall hw4 hca4 e58 hK4 a63 a65 a490 a491 a58 a492 a70 a505 s58 s70 s492
          go_wp2_with fail
          first | refine ⟨trivial, k - 1, by omega, ?_⟩ | refine ⟨k - 1, by omega, ?_⟩
          rw [HI.out]
          refine ⟨j + 1, by omega, ?_, by simp [hU], u4, by simp [hU, b58], ?_, HCA4.out⟩
          · repeat (refine Keeps.put ?_ _ _ (by first | exact .inr ⟨by decide, by decide⟩ | exact .inl (by decide)))
            exact HK4.out
          · rw [HST.out, ← HB.out, h, List.flatMap_append, ← List.append_assoc]
            exact HW4.out
      · go_wp2_with fail
        first | refine ⟨trivial, k - 1, by omega, ?_⟩ | refine ⟨k - 1, by omega, ?_⟩
        rw [HI.out]
        refine ⟨j + 1, by omega, ?_, by simp [hT], wv, by simp [hT, a58], ?_, HCAA.out⟩
        · repeat (refine Keeps.put ?_ _ _ (by first | exact .inr ⟨by decide, by decide⟩ | exact .inl (by decide)))
          exact HK.out
        · rw [HST.out, ← HB.out, h]
          simpa using HWA.out
    · have hj : j = es.length := by have := of_decide_eq_false h; omega
      clear h
      go_wp2_with fail
      subst hj
      have hw := HW.out
      rw [List.take_length] at hw
      refine HQ.out _ _ wv ?_ (by simp [hT, a58]) hw HCA.out
      repeat (refine Keeps.put ?_ _ _ (by first | exact .inr ⟨by decide, by decide⟩ | exact .inl (by decide)))
      exact HK.out
  · rw [HI.out]
    exact ⟨0, by omega, Keeps.refl, t492, wv0, t58, by simpa [selE] using HW0.out.1, HW0.out.2⟩
end Go.Proofs.Ybulkcawy
