/-
  LawS3859APlay: the outcomes are the wanted ones.
-/
import Derived.Test.YbulkcawyF3J
namespace Go.Proofs.Ybulkcawy
open Go.RowKit
set_option linter.unusedSimpArgs false
set_option linter.unusedVariables false
set_option maxRecDepth 100000
set_option maxHeartbeats 1000000

theorem aggNe71 (a v t d : Int) (b : Bool) (w : World) : (Go.binOp .neq 71 (.agg #[.int .i64 a, .bool b, .int .i64 v, .int .i64 t, .int .i64 d]) (.agg #[.int .i64 a, .bool b, .int .i64 v, .int .i64 t, .int .i64 d])).run Yba.prog w = .ok (.bool false) w := by
  simp [go_sem]

theorem f3_36 (p : Inp) (hp : p.ok) (c : Cfg) (hcr : c.cr = upTo p.n p.crA) (hdec : ∀ q, 1 ≤ q → q ≤ p.n → c.dec q = upTo p.n p.dcA q) (B OU R : Nat) (w : World) (hC : Row w B 23 7 (fun k => .int .i64 (upTo p.n p.crA k))) (hDc : Row w (B + 2) 23 7 (fun k => .int .i64 (upTo p.n p.dcA k))) (hO : Row w OU 71 (p.n * 5) (outM c.cr (dtAt c R))) (hR : R ≤ 100) (T : Array Value) (Q : Exit → Act → World → Prop) (hT0 : T.size = 735) (t23 : T[23]?.getD undef = .int .i64 p.n) (t25 : T[25]?.getD undef = .pointer (some ⟨B, 0, none⟩)) (t27 : T[27]?.getD undef = .pointer (some ⟨B + 2, 0, none⟩)) (t35 : T[35]?.getD undef = .func (.func 8) #[] #[.pointer (some ⟨B, 0, none⟩)]) (t57 : T[57]?.getD undef = .slice (some ⟨OU, 0, none⟩) p.n p.n) (t60 : T[60]?.getD undef = .int .i64 R) (t76 : T[76]?.getD undef = .int .i64 1)
    (hQ : ∀ T' w', Keeps 81 734 [76, 77, 78] T T' → Only (fun _ => False) w w' → Q .normal ⟨T', []⟩ w') : (blkOf Yba.f3 36).wp Yba.prog Q ⟨T, []⟩ w := by
  conv in (blkOf Yba.f3 36) => whnf
  refine wp_block ?_
  have HQ := hidP hQ
  have H0 := hidP (And.intro hC (And.intro hDc hO))
  have HCR := hidP hcr
  have HDEC := hidP hdec
  have hn6 := hp.n6
  have hl5 := hp.l5
  have HP := hidP hp
  clear hQ hC hDc hO hcr hdec hp
  obtain ⟨I, hI⟩ : ∃ I : Nat → Array Value → World → Prop, I = (fun k T2 wr => ∃ q, 1 ≤ q ∧ q + k = p.n + 1 ∧ Keeps 81 734 [76, 77, 78] T T2 ∧ T2[76]?.getD undef = .int .i64 q ∧ Only (fun _ => False) w wr) := ⟨_, rfl⟩
  have HI := hidP hI
  clear hI
  refine wp_loop_n I ?_ p.n _ _ ?_
  · intro k T2 wr hIk
    rw [HI.out] at hIk
    obtain ⟨q, hq1, hqk, hK, u76, ho⟩ := hIk
    have hT : T2.size = 735 := hK.1.trans hT0
    have a23 := hK.at' hT 23 (by decide) t23 (by decide) (by decide)
    have a25 := hK.at' hT 25 (by decide) t25 (by decide) (by decide)
    have a27 := hK.at' hT 27 (by decide) t27 (by decide) (by decide)
    have a35 := hK.at' hT 35 (by decide) t35 (by decide) (by decide)
    have a57 := hK.at' hT 57 (by decide) t57 (by decide) (by decide)
    have a60 := hK.at' hT 60 (by decide) t60 (by decide) (by decide)
    have a76 : T2[76]'(by omega) = _ := at_of _ u76
    have HK := hidP hK
    clear hK u76
    have HO := hidP ho
    clear ho
    go_upto_if 655 with fail
    refine wp_cond_at (decide (q ≤ p.n)) (by simp [Act.eval, hT]) (fun h => ?_) (fun h => ?_)
    · have hqn : q ≤ p.n := of_decide_eq_true h
      clear h
      obtain ⟨hC, hDc, hO⟩ := H0.out
      have hCr := hC.only HO.out (fun h => h)
      have hDr := hDc.only HO.out (fun h => h)
      have hOr := hO.only HO.out (fun h => h)
      obtain ⟨dq, hdq⟩ : ∃ dq, dq = upTo p.n p.dcA q := ⟨_, rfl⟩
      obtain ⟨cq, hcq⟩ : ∃ cq, cq = upTo p.n p.crA q := ⟨_, rfl⟩
      have cD : wr.cell? ⟨B + 2, q, none⟩ = some (.int .i64 dq) := by rw [hdq]; exact hDr.cell q (by omega)
      have cC : wr.cell? ⟨B, q, none⟩ = some (.int .i64 cq) := by rw [hcq]; exact hCr.cell q (by omega)
      have i3 : (0 : Int) ≤ (q : Int) := by omega
      have i4 : (q : Int) < 7 := by omega
      have HCr := hidP hCr
      have HOr := hidP hOr
      have HDQ := hidP hdq
      have HCQ := hidP hcq
      clear hC hDc hO hCr hDr hOr hdq hcq
      refine gen_frame (fun T2 => T2.size = 735 ∧ Keeps 81 734 [76, 77, 78] T T2 ∧ T2[76]?.getD undef = .int .i64 q) ⟨by simp [hT], ?_, by simp [hT, a23, a25, a27, a35, a57, a60, a76]⟩ ?_
      · repeat (refine Keeps.put ?_ _ _ (by first | exact .inr ⟨by decide, by decide⟩ | exact .inl (by decide)))
        exact HK.out
      clear a23 a25 a27 a35 a57 a60 a76 HK hT
      clear T2
      rintro T2 ⟨hT, hK, u76⟩
      have a23 := hK.at' hT 23 (by decide) t23 (by decide) (by decide)
      have a25 := hK.at' hT 25 (by decide) t25 (by decide) (by decide)
      have a27 := hK.at' hT 27 (by decide) t27 (by decide) (by decide)
      have a35 := hK.at' hT 35 (by decide) t35 (by decide) (by decide)
      have a57 := hK.at' hT 57 (by decide) t57 (by decide) (by decide)
      have a60 := hK.at' hT 60 (by decide) t60 (by decide) (by decide)
      have a76 : T2[76]'(by omega) = _ := at_of _ u76
      have HK := hidP hK
      clear hK u76
      go_upto_region 169 with fail
      refine gen_both (fun T2 wa => T2.size = 735 ∧ Keeps 81 734 [76, 77, 78] T T2 ∧ T2[76]?.getD undef = .int .i64 q ∧ T2[77]?.getD undef = .int .i64 dq ∧ T2[78]?.getD undef = .pointer (some ⟨wr.heap.size, 0, none⟩) ∧ Row wa wr.heap.size 71 5 (fun k => ([.int .i64 q, .bool false, .int .i64 0, .int .i64 0, .int .i64 cq] : List Value).getD k undef) ∧ Only (fun _ => False) wr wa) ⟨by simp [hT], ?_, by simp [hT, a76], by simp [hT], by simp [hT], Row.newL wr [.int .i64 q, .bool false, .int .i64 0, .int .i64 0, .int .i64 cq] 71, Only.refl.alloc _⟩ ?_
      · repeat (refine Keeps.put ?_ _ _ (by first | exact .inr ⟨by decide, by decide⟩ | exact .inl (by decide)))
        exact HK.out
      clear a23 a25 a27 a35 a57 a60 a76 HK cD cC hT
      clear T2
      rintro T2 wa ⟨hT, hK, u76, u77, u78, hrow, ho1⟩
      obtain ⟨wb, hwb⟩ : ∃ wb, wb = wr.heap.size := ⟨_, rfl⟩
      rw [← hwb] at u78 hrow
      have s35 := hK.get t35 (by decide) (by decide)
      have s60 := hK.get t60 (by decide) (by decide)
      have s76 := u76
      have s77 := u77
      have s78 := u78
      have HK := hidP hK
      have HOA := hidP (HO.out.trans ho1)
      have HOr' := hidP (HOr.out.only ho1 (fun h => h))
      have hOUwb : OU ≠ wb := by have := HOr.out.lt; omega
      have HWB := hidP hwb
      clear hwb
      obtain ⟨Dc, hD⟩ : ∃ Dc, Dc = compl (upTo p.n p.crA) q dq := ⟨_, rfl⟩
      have h8 := ownCompletes B 23 q dq (upTo p.n p.crA) wa (HCr.out.only ho1 (fun h => h)) (by omega)
      rw [← hD] at h8
      have H8 := hidP h8
      have HD := hidP hD
      have HROW := hidP hrow
      clear hK ho1 h8 hD hrow
      rename_i K169 hK169
      have HK169 := hidP hK169
      clear hK169
      obtain ⟨oc, hoc⟩ : ∃ oc, oc = (decide (dq ≤ R) && Dc) := ⟨_, rfl⟩
      have HOC := hidP hoc
      clear hoc
      suffices merge : ∀ T2, T2.size = 735 ∧ Keeps 81 734 [76, 77, 78] T T2 ∧ T2[76]?.getD undef = .int .i64 q ∧ T2[77]?.getD undef = .int .i64 dq ∧ T2[78]?.getD undef = .pointer (some ⟨wb, 0, none⟩) ∧ T2[674]?.getD undef = .bool oc → K169 ⟨T2, []⟩ wa by
        have MERGE := hidP merge
        clear merge
        by_cases h1 : dq ≤ R
        · have hle : (dq : Int) ≤ (R : Int) := by omega
          have hle2 := h1
          refine region_plain _ 735 hT [.int .i64 dq, .int .i64 R, .bool true, .bool true, .func (.func 8) #[] #[.pointer (some ⟨B, 0, none⟩)], .int .i64 q, .int .i64 dq, .bool Dc, .bool Dc] wa (by decide) (by decide) ?_ ?_
          · intro i hi U hU hK hprev
            have hi' : i < 9 := hi
            rcases (by omega : i = 0 ∨ i = 1 ∨ i = 2 ∨ i = 3 ∨ i = 4 ∨ i = 5 ∨ i = 6 ∨ i = 7 ∨ i = 8) with rfl | rfl | rfl | rfl | rfl | rfl | rfl | rfl | rfl
            · have hx77 : U[77]?.getD undef = .int .i64 dq := kept_of hK 77 (by decide) (by assumption)
              refine .inl ⟨want_none rfl, ?_⟩
              refine step_of_run (v := .int .i64 dq) (w' := _) ?_ ⟨rfl, _, rfl, (fun h => by cases h), rfl⟩
              simp [execOp, go_sem, hx77, hle]
            · have hx60 : U[60]?.getD undef = .int .i64 R := kept_of hK 60 (by decide) (by assumption)
              refine .inl ⟨want_none rfl, ?_⟩
              refine step_of_run (v := .int .i64 R) (w' := _) ?_ ⟨rfl, _, rfl, (fun h => by cases h), rfl⟩
              simp [execOp, go_sem, hx60, hle]
            · have d0 : U[666]?.getD undef = .int .i64 dq := slot_of (hprev 0 (by decide)) rfl
              have d1 : U[667]?.getD undef = .int .i64 R := slot_of (hprev 1 (by decide)) rfl
              refine .inl ⟨want_none rfl, ?_⟩
              refine step_of_run (v := .bool true) (w' := _) ?_ ⟨rfl, _, rfl, (fun h => by cases h), rfl⟩
              simp [execOp, go_sem, d0, d1, hle]
            · have d2 : U[668]?.getD undef = .bool true := slot_of (hprev 2 (by decide)) rfl
              refine .inl ⟨want_none rfl, ?_⟩
              refine step_of_run (v := .bool true) (w' := _) ?_ ⟨rfl, _, rfl, (fun h => by cases h), rfl⟩
              simp [execOp, go_sem, d2, hle]
            · have hx35 : U[35]?.getD undef = .func (.func 8) #[] #[.pointer (some ⟨B, 0, none⟩)] := kept_of hK 35 (by decide) (by assumption)
              refine .inl ⟨want_of (d := 669) rfl rfl (by omega) (slot_of (hprev 3 (by decide)) rfl), ?_⟩
              refine step_of_run (v := .func (.func 8) #[] #[.pointer (some ⟨B, 0, none⟩)]) (w' := _) ?_ ⟨rfl, _, rfl, (fun h => by cases h), rfl⟩
              simp [execOp, go_sem, hx35, hle]
            · have hx76 : U[76]?.getD undef = .int .i64 q := kept_of hK 76 (by decide) (by assumption)
              refine .inl ⟨want_of (d := 669) rfl rfl (by omega) (slot_of (hprev 3 (by decide)) rfl), ?_⟩
              refine step_of_run (v := .int .i64 q) (w' := _) ?_ ⟨rfl, _, rfl, (fun h => by cases h), rfl⟩
              simp [execOp, go_sem, hx76, hle]
            · have hx77 : U[77]?.getD undef = .int .i64 dq := kept_of hK 77 (by decide) (by assumption)
              refine .inl ⟨want_of (d := 669) rfl rfl (by omega) (slot_of (hprev 3 (by decide)) rfl), ?_⟩
              refine step_of_run (v := .int .i64 dq) (w' := _) ?_ ⟨rfl, _, rfl, (fun h => by cases h), rfl⟩
              simp [execOp, go_sem, hx77, hle]
            · have d4 : U[670]?.getD undef = .func (.func 8) #[] #[.pointer (some ⟨B, 0, none⟩)] := slot_of (hprev 4 (by decide)) rfl
              have d5 : U[671]?.getD undef = .int .i64 q := slot_of (hprev 5 (by decide)) rfl
              have d6 : U[672]?.getD undef = .int .i64 dq := slot_of (hprev 6 (by decide)) rfl
              refine .inl ⟨want_of (d := 669) rfl rfl (by omega) (slot_of (hprev 3 (by decide)) rfl), ?_⟩
              refine step_of_call (f := 8) (args := #[.int .i64 q, .int .i64 dq, .pointer (some ⟨B, 0, none⟩)]) (w' := wa) ?_ (H8.out.mono ?_)
              · simp [execOp, go_sem, d4, d5, d6]
              · rintro e w9 ⟨rfl, hw9⟩
                exact ⟨_, rfl, hw9, _, rfl, (fun h => by cases h), rfl⟩
            · have d3 : U[669]?.getD undef = .bool true := slot_of (hprev 3 (by decide)) rfl
              have d7 : U[673]?.getD undef = .bool Dc := slot_of (hprev 7 (by decide)) rfl
              refine .inl ⟨want_none rfl, ?_⟩
              refine step_of_run (v := .bool Dc) (w' := _) ?_ ⟨rfl, _, rfl, (fun h => by cases h), rfl⟩
              simp [execOp, go_sem, d3, d7, hle]
          · intro U hU hKU hall
            have b674 : U[674]?.getD undef = .bool Dc := slot_of (hall 8 (by decide)) rfl
            exact MERGE.out U ⟨hU, Keeps.trans HK.out (Kept.keeps (lo := 81) (hi := 734) (vs := [76, 77, 78]) hKU (hU.trans hT.symm) (by decide)), kept_of hKU 76 (by decide) s76, kept_of hKU 77 (by decide) s77, kept_of hKU 78 (by decide) s78, b674.trans (by rw [HOC.out]; simp [h1])⟩
        · have hle : ¬ (dq : Int) ≤ (R : Int) := by omega
          refine region_plain _ 735 hT [.int .i64 dq, .int .i64 R, .bool false, .bool false, undef, undef, undef, undef, .bool false] wa (by decide) (by decide) ?_ ?_
          · intro i hi U hU hK hprev
            have hi' : i < 9 := hi
            rcases (by omega : i = 0 ∨ i = 1 ∨ i = 2 ∨ i = 3 ∨ i = 4 ∨ i = 5 ∨ i = 6 ∨ i = 7 ∨ i = 8) with rfl | rfl | rfl | rfl | rfl | rfl | rfl | rfl | rfl
            · have hx77 : U[77]?.getD undef = .int .i64 dq := kept_of hK 77 (by decide) (by assumption)
              refine .inl ⟨want_none rfl, ?_⟩
              refine step_of_run (v := .int .i64 dq) (w' := _) ?_ ⟨rfl, _, rfl, (fun h => by cases h), rfl⟩
              simp [execOp, go_sem, hx77, hle]
            · have hx60 : U[60]?.getD undef = .int .i64 R := kept_of hK 60 (by decide) (by assumption)
              refine .inl ⟨want_none rfl, ?_⟩
              refine step_of_run (v := .int .i64 R) (w' := _) ?_ ⟨rfl, _, rfl, (fun h => by cases h), rfl⟩
              simp [execOp, go_sem, hx60, hle]
            · have d0 : U[666]?.getD undef = .int .i64 dq := slot_of (hprev 0 (by decide)) rfl
              have d1 : U[667]?.getD undef = .int .i64 R := slot_of (hprev 1 (by decide)) rfl
              refine .inl ⟨want_none rfl, ?_⟩
              refine step_of_run (v := .bool false) (w' := _) ?_ ⟨rfl, _, rfl, (fun h => by cases h), rfl⟩
              simp [execOp, go_sem, d0, d1, hle]
            · have d2 : U[668]?.getD undef = .bool false := slot_of (hprev 2 (by decide)) rfl
              refine .inl ⟨want_none rfl, ?_⟩
              refine step_of_run (v := .bool false) (w' := _) ?_ ⟨rfl, _, rfl, (fun h => by cases h), rfl⟩
              simp [execOp, go_sem, d2, hle]
            · exact .inr ⟨skip_of (d := 669) rfl rfl (by omega) (slot_of (hprev 3 (by decide)) rfl), rfl⟩
            · exact .inr ⟨skip_of (d := 669) rfl rfl (by omega) (slot_of (hprev 3 (by decide)) rfl), rfl⟩
            · exact .inr ⟨skip_of (d := 669) rfl rfl (by omega) (slot_of (hprev 3 (by decide)) rfl), rfl⟩
            · exact .inr ⟨skip_of (d := 669) rfl rfl (by omega) (slot_of (hprev 3 (by decide)) rfl), rfl⟩
            · have d3 : U[669]?.getD undef = .bool false := slot_of (hprev 3 (by decide)) rfl
              have d7 : U[673]?.getD undef = undef := slot_of (hprev 7 (by decide)) rfl
              refine .inl ⟨want_none rfl, ?_⟩
              refine step_of_run (v := .bool false) (w' := _) ?_ ⟨rfl, _, rfl, (fun h => by cases h), rfl⟩
              simp [execOp, go_sem, d3, d7, hle]
          · intro U hU hKU hall
            have b674 : U[674]?.getD undef = .bool false := slot_of (hall 8 (by decide)) rfl
            exact MERGE.out U ⟨hU, Keeps.trans HK.out (Kept.keeps (lo := 81) (hi := 734) (vs := [76, 77, 78]) hKU (hU.trans hT.symm) (by decide)), kept_of hKU 76 (by decide) s76, kept_of hKU 77 (by decide) s77, kept_of hKU 78 (by decide) s78, b674.trans (by rw [HOC.out]; simp [h1])⟩
      clear s35 s60 s76 s77 s78 u76 u77 u78 HK hT
      clear T2
      rintro T2 ⟨hT, hK, u76, u77, u78, u674⟩
      have a23 := hK.at' hT 23 (by decide) t23 (by decide) (by decide)
      have a25 := hK.at' hT 25 (by decide) t25 (by decide) (by decide)
      have a27 := hK.at' hT 27 (by decide) t27 (by decide) (by decide)
      have a35 := hK.at' hT 35 (by decide) t35 (by decide) (by decide)
      have a57 := hK.at' hT 57 (by decide) t57 (by decide) (by decide)
      have a60 := hK.at' hT 60 (by decide) t60 (by decide) (by decide)
      have a76 : T2[76]'(by omega) = _ := at_of _ u76
      have a77 : T2[77]'(by omega) = _ := at_of _ u77
      have a78 : T2[78]'(by omega) = _ := at_of _ u78
      have a674 : T2[674]'(by omega) = _ := at_of _ u674
      have HK := hidP hK
      clear hK u76 u77 u78 u674
      refine HK169.out _ _ ?_
      go_upto_if 674 with fail
      rename_i K674 hK674
      have HK674 := hidP hK674
      clear hK674
      suffices merge : ∀ T2 wc, (T2.size = 735 ∧ Keeps 81 734 [76, 77, 78] T T2 ∧ T2[76]?.getD undef = .int .i64 q ∧ T2[78]?.getD undef = .pointer (some ⟨wb, 0, none⟩)) ∧ Row wc wb 71 5 (fun k => ([.int .i64 q, .bool oc, .int .i64 (if oc then (q : Int) * 7 else 0), .int .i64 (if oc then (dq : Int) else 0), .int .i64 cq] : List Value).getD k undef) ∧ Only (fun b => b = wb) wa wc → K674 ⟨T2, []⟩ wc by
        have MERGE := hidP merge
        clear merge
        have c0 : wa.cell? ⟨wb, 1, none⟩ = some (.bool false) := HROW.out.cell 1 (by omega)
        have c1 : wa.cell? ⟨wb, 2, none⟩ = some (.int .i64 0) := HROW.out.cell 2 (by omega)
        have c2 : wa.cell? ⟨wb, 3, none⟩ = some (.int .i64 0) := HROW.out.cell 3 (by omega)
        have f0 := HROW.out.frozen 1
        have f1 := HROW.out.frozen 2
        have f2 := HROW.out.frozen 3
        refine wp_cond_at oc (by simp [Act.eval, hT, a674]) (fun h => ?_) (fun h => ?_)
        · have hdb : dq ≤ 100 := by
            have h1 : decide (dq ≤ R) = true := by
              have := HOC.out
              rw [h] at this
              simp at this
              simp [this.1]
            have := of_decide_eq_true h1
            omega
          go_wp2_with fail
          refine MERGE.out _ _ ⟨⟨?_, ?_, ?_, ?_⟩, ?_, ?_⟩
          · simp [hT]
          · repeat (refine Keeps.put ?_ _ _ (by first | exact .inr ⟨by decide, by decide⟩ | exact .inl (by decide)))
            exact HK.out
          · simp [hT, a76]
          · simp [hT, a78]
          · refine (((HROW.out.set 1 _).set 2 _).set 3 _).ext fun x hx => ?_
            rw [h]
            rcases (by omega : x = 0 ∨ x = 1 ∨ x = 2 ∨ x = 3 ∨ x = 4) with rfl | rfl | rfl | rfl | rfl <;> simp
          · exact Only.setCell (S := fun b => b = wb) (Only.setCell (S := fun b => b = wb) (Only.setCell (S := fun b => b = wb) Only.refl (p := ⟨wb, 1, none⟩) (fun _ => rfl) _) (p := ⟨wb, 2, none⟩) (fun _ => rfl) _) (p := ⟨wb, 3, none⟩) (fun _ => rfl) _
        · go_wp2_with fail
          refine MERGE.out T2 wa ⟨⟨hT, HK.out, by simp [hT, a76], by simp [hT, a78]⟩, HROW.out.ext fun x hx => ?_, Only.refl⟩
          · rw [h]
            rcases (by omega : x = 0 ∨ x = 1 ∨ x = 2 ∨ x = 3 ∨ x = 4) with rfl | rfl | rfl | rfl | rfl <;> simp
      clear a23 a25 a27 a35 a57 a60 a76 a77 a78 a674 HK hT
      clear T2
      rintro T2 wc ⟨⟨hT, hK, u76, u78⟩, hrow, ho2⟩
      have s57 := hK.get t57 (by decide) (by decide)
      have s76 := u76
      have s78 := u78
      have HK := hidP hK
      refine HK674.out _ _ ?_
      obtain ⟨j, hj⟩ : ∃ j, j = q - 1 := ⟨_, rfl⟩
      have hjj : j + 1 = q := by omega
      have hjI : (q : Int) - 1 = (j : Int) := by omega
      have wrj : IntKind.i64.wrap (j : Int) = (j : Int) := by rw [IntKind.wrap_i64]; omega
      have i1 : (0 : Int) ≤ (j : Int) := by omega
      have i2 : (j : Int) < (p.n : Int) := by omega
      have hOc := HOr'.out.only ho2 hOUwb
      have hoc2 : dtAt c R q = if oc then some dq else none := by
        unfold dtAt
        rw [HDEC.out q hq1 hqn, ← HDQ.out, HCR.out, ← HD.out, HOC.out]
        by_cases h1 : dq ≤ R <;> cases Dc <;> simp [h1]
      obtain ⟨bd, hbd⟩ : ∃ bd, bd = oc := ⟨_, rfl⟩
      obtain ⟨bv, hbv⟩ : ∃ bv : Int, bv = if oc then (q : Int) * 7 else 0 := ⟨_, rfl⟩
      obtain ⟨bt, hbt⟩ : ∃ bt : Int, bt = if oc then (dq : Int) else 0 := ⟨_, rfl⟩
      have hcell : ∀ f, f < 5 → wc.cell? ⟨OU, j * 5 + f, none⟩ = some (([.int .i64 q, .bool bd, .int .i64 bv, .int .i64 bt, .int .i64 cq] : List Value).getD f undef) := fun f hf => by
        rw [hOc.cell (j * 5 + f) (by omega), outM_at _ _ _ _ hf, hjj, hoc2, hbd, hbv, hbt, HCQ.out, HCR.out]
        rcases (by omega : f = 0 ∨ f = 1 ∨ f = 2 ∨ f = 3 ∨ f = 4) with rfl | rfl | rfl | rfl | rfl <;> cases oc <;> simp
      have cO0 : wc.cell? ⟨OU, j * 5, none⟩ = some (.int .i64 q) := hcell 0 (by omega)
      have cO1 : wc.cell? ⟨OU, j * 5 + 1, none⟩ = some (.bool bd) := hcell 1 (by omega)
      have cO2 : wc.cell? ⟨OU, j * 5 + 2, none⟩ = some (.int .i64 bv) := hcell 2 (by omega)
      have cO3 : wc.cell? ⟨OU, j * 5 + 3, none⟩ = some (.int .i64 bt) := hcell 3 (by omega)
      have cO4 : wc.cell? ⟨OU, j * 5 + 4, none⟩ = some (.int .i64 cq) := hcell 4 (by omega)
      rw [← hbv, ← hbt, ← hbd] at hrow
      have cW0 : wc.cell? ⟨wb, 0, none⟩ = some (.int .i64 q) := hrow.cell 0 (by omega)
      have cW1 : wc.cell? ⟨wb, 1, none⟩ = some (.bool bd) := hrow.cell 1 (by omega)
      have cW2 : wc.cell? ⟨wb, 2, none⟩ = some (.int .i64 bv) := hrow.cell 2 (by omega)
      have cW3 : wc.cell? ⟨wb, 3, none⟩ = some (.int .i64 bt) := hrow.cell 3 (by omega)
      have cW4 : wc.cell? ⟨wb, 4, none⟩ = some (.int .i64 cq) := hrow.cell 4 (by omega)
      have HOC2 : Hid (Only (fun _ => False) w wc) := hidP (HOA.out.trans' ho2 (fun b hb e => by
        have h1 := HO.out.size
        have := HWB.out
        omega))
      clear hbd hbv hbt hcell hoc2 hOc hrow hK ho2 hj
      go_upto_region 171 with fail
      refine region_chain (by kernel_rfl) _ 735 hT [some (.slice (some ⟨OU, 0, none⟩) p.n p.n), some (.int .i64 q), some (.int .i64 j), some (.pointer (some ⟨OU, j * 5, none⟩)), some (.agg #[.int .i64 q, .bool bd, .int .i64 bv, .int .i64 bt, .int .i64 cq]), some (.agg #[.int .i64 q, .bool bd, .int .i64 bv, .int .i64 bt, .int .i64 cq]), some (.bool false)] [] (fun _ w1 => w1 = wc.drew) (by decide) (by decide) (by decide) (by decide) (by decide) (by decide) ?_ ?_ ?_ rfl
      · intro i hi U vs w1 hia hU hK hSt hanc hdep
        have hw1 : w1 = wc.drew := hSt
        subst hw1
        have o0 : wc.drew.cell? ⟨OU, j * 5, none⟩ = some (.int .i64 q) := cO0
        have o1 : wc.drew.cell? ⟨OU, j * 5 + 1, none⟩ = some (.bool bd) := cO1
        have o2 : wc.drew.cell? ⟨OU, j * 5 + 2, none⟩ = some (.int .i64 bv) := cO2
        have o3 : wc.drew.cell? ⟨OU, j * 5 + 3, none⟩ = some (.int .i64 bt) := cO3
        have o4 : wc.drew.cell? ⟨OU, j * 5 + 4, none⟩ = some (.int .i64 cq) := cO4
        have z0 : wc.drew.cell? ⟨wb, 0, none⟩ = some (.int .i64 q) := cW0
        have z1 : wc.drew.cell? ⟨wb, 1, none⟩ = some (.bool bd) := cW1
        have z2 : wc.drew.cell? ⟨wb, 2, none⟩ = some (.int .i64 bv) := cW2
        have z3 : wc.drew.cell? ⟨wb, 3, none⟩ = some (.int .i64 bt) := cW3
        have z4 : wc.drew.cell? ⟨wb, 4, none⟩ = some (.int .i64 cq) := cW4
        have hi' : i < 7 := hi
        rcases (by omega : i = 0 ∨ i = 1 ∨ i = 2 ∨ i = 3 ∨ i = 4 ∨ i = 5 ∨ i = 6) with rfl | rfl | rfl | rfl | rfl | rfl | rfl
        · have hx57 : U[57]?.getD undef = .slice (some ⟨OU, 0, none⟩) p.n p.n := kept_of hK 57 (by decide) (by assumption)
          refine step_of_run (v := .slice (some ⟨OU, 0, none⟩) p.n p.n) (w' := _) ?_ ⟨rfl, _, rfl, (fun h => by cases h), rfl⟩
          simp [execOp, go_sem, hx57, o0, o1, o2, o3, o4, z0, z1, z2, z3, z4, i1, i2, hjI, wrj, aggNe71]
        · have hx76 : U[76]?.getD undef = .int .i64 q := kept_of hK 76 (by decide) (by assumption)
          refine step_of_run (v := .int .i64 q) (w' := _) ?_ ⟨rfl, _, rfl, (fun h => by cases h), rfl⟩
          simp [execOp, go_sem, hx76, o0, o1, o2, o3, o4, z0, z1, z2, z3, z4, i1, i2, hjI, wrj, aggNe71]
        · have d1 : U[682]?.getD undef = .int .i64 q := slot_of (chain_of (hdep ⟨1, .data⟩ (by simp) rfl (by decide)) rfl) rfl
          refine step_of_run (v := .int .i64 j) (w' := _) ?_ ⟨rfl, _, rfl, (fun h => by cases h), rfl⟩
          simp [execOp, go_sem, d1, o0, o1, o2, o3, o4, z0, z1, z2, z3, z4, i1, i2, hjI, wrj, aggNe71]
        · have d0 : U[681]?.getD undef = .slice (some ⟨OU, 0, none⟩) p.n p.n := slot_of (chain_of (hdep ⟨0, .data⟩ (by simp) rfl (by decide)) rfl) rfl
          have d2 : U[683]?.getD undef = .int .i64 j := slot_of (chain_of (hdep ⟨2, .data⟩ (by simp) rfl (by decide)) rfl) rfl
          refine step_of_run (v := .pointer (some ⟨OU, j * 5, none⟩)) (w' := _) ?_ ⟨rfl, _, rfl, (fun h => by cases h), rfl⟩
          simp [execOp, go_sem, d0, d2, o0, o1, o2, o3, o4, z0, z1, z2, z3, z4, i1, i2, hjI, wrj, aggNe71]
        · have d3 : U[684]?.getD undef = .pointer (some ⟨OU, j * 5, none⟩) := slot_of (chain_of (hdep ⟨3, .data⟩ (by simp) rfl (by decide)) rfl) rfl
          refine step_of_run (v := .agg #[.int .i64 q, .bool bd, .int .i64 bv, .int .i64 bt, .int .i64 cq]) (w' := _) ?_ ⟨rfl, _, rfl, (fun h => by cases h), rfl⟩
          simp [execOp, go_sem, d3, o0, o1, o2, o3, o4, z0, z1, z2, z3, z4, i1, i2, hjI, wrj, aggNe71]
        · have hx78 : U[78]?.getD undef = .pointer (some ⟨wb, 0, none⟩) := kept_of hK 78 (by decide) (by assumption)
          refine step_of_run (v := .agg #[.int .i64 q, .bool bd, .int .i64 bv, .int .i64 bt, .int .i64 cq]) (w' := _) ?_ ⟨rfl, _, rfl, (fun h => by cases h), rfl⟩
          simp [execOp, go_sem, hx78, o0, o1, o2, o3, o4, z0, z1, z2, z3, z4, i1, i2, hjI, wrj, aggNe71]
        · have d4 : U[685]?.getD undef = .agg #[.int .i64 q, .bool bd, .int .i64 bv, .int .i64 bt, .int .i64 cq] := slot_of (chain_of (hdep ⟨4, .data⟩ (by simp) rfl (by decide)) rfl) rfl
          have d5 : U[686]?.getD undef = .agg #[.int .i64 q, .bool bd, .int .i64 bv, .int .i64 bt, .int .i64 cq] := slot_of (chain_of (hdep ⟨5, .data⟩ (by simp) rfl (by decide)) rfl) rfl
          refine step_of_run (v := .bool false) (w' := _) ?_ ⟨rfl, _, rfl, (fun h => by cases h), rfl⟩
          simp [execOp, go_sem, d4, d5, o0, o1, o2, o3, o4, z0, z1, z2, z3, z4, i1, i2, hjI, wrj, aggNe71]
      · intro j hj hi U vs w1 hlen hU hK hSt hdep hprev
        have hj' : j < 0 := hj
        omega
      · intro U vs w2 hU hKU hlen2 hSt hval hall
        have hw2 : w2 = wc.drew := hSt
        have b687 : U[687]?.getD undef = .bool false := slot_of (chain_of (hall 6 (by decide) (by decide)) rfl) rfl
        have b76 : U[76]'(by omega) = .int .i64 q := at_of _ (kept_of hKU 76 (by decide) s76)
        have hK2 := Keeps.trans HK.out (Kept.keeps (lo := 81) (hi := 734) (vs := [76, 77, 78]) hKU (hU.trans hT.symm) (by decide))
        have HK2 := hidP hK2
        have HO2 : Hid (Only (fun _ => False) w w2) := hidP (by rw [hw2]; exact HOC2.out.drew)
        clear hKU hlen2 hSt hval hall hK2 hw2 s57 s76 s78 cO0 cO1 cO2 cO3 cO4 cW0 cW1 cW2 cW3 cW4
        go_upto_if 687 with fail
        refine wp_cond_at false (by simpa [Act.eval] using b687) (fun h => by cases h) (fun _ => ?_)
        go_wp2_with fail
        first | refine ⟨trivial, k - 1, by omega, ?_⟩ | refine ⟨k - 1, by omega, ?_⟩
        rw [HI.out]
        refine ⟨q + 1, by omega, by omega, ?_, by simp [hU], HO2.out⟩
        repeat (refine Keeps.put ?_ _ _ (by first | exact .inr ⟨by decide, by decide⟩ | exact .inl (by decide)))
        exact HK2.out
    · clear h
      go_wp2_with fail
      refine HQ.out _ _ ?_ HO.out
      repeat (refine Keeps.put ?_ _ _ (by first | exact .inr ⟨by decide, by decide⟩ | exact .inl (by decide)))
      exact HK.out
  · rw [HI.out]
    exact ⟨1, by omega, by omega, Keeps.refl, t76, Only.refl⟩
end Go.Proofs.Ybulkcawy
