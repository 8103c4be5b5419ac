/-
  LawS3859APlay: the log that it wants: what a process receives.
-/
import Derived.Test.YbulkcawyF3W
namespace Go.Proofs.Ybulkcawy
open Go.RowKit
set_option linter.unusedSimpArgs false
set_option linter.unusedVariables false
set_option maxRecDepth 100000
set_option maxHeartbeats 1000000

/-- Whether q's message of round r reaches i. -/
def okA (p : Inp) (r i q : Nat) : Bool := compl (upTo p.n p.crA) q (r - 1) && !lostT p p.omN (markX q r i) && (compl (upTo p.n p.crA) q r || (decide (upTo p.n p.crA q = r) && bitT (upTo p.n p.reA q) (i - 1)))
def okL (p : Inp) (r i k : Nat) : List Int := (List.range k).map fun j => if okA p r i (j + 1) then ((j + 1 : Nat) : Int) * 100 + (r : Int) else -1
theorem okL_succ (p : Inp) (r i k : Nat) : okL p r i (k + 1) = okL p r i k ++ [if okA p r i (k + 1) then ((k + 1 : Nat) : Int) * 100 + (r : Int) else -1] := by simp [okL, List.range_succ]

theorem f3_28 (p : Inp) (hp : p.ok) (B CA SB : Nat) (evv : Value) (w0 : World) (he : WEnv p B CA SB evv w0) (hB0 : B ≤ w0.heap.size) (r i : Nat) (hr1 : 1 ≤ r) (hr : r ≤ 5) (hi1 : 1 ≤ i) (hi : i ≤ 6) (xs : List Int) (hxs : xs.length ≤ 90000) (v : Value) (m : Nat → Value) (w : World) (hw : Want B CA w0 w v xs) (hca : Row w CA 78 36 m) (T : Array Value) (Q : Exit → Act → World → Prop) (hT0 : T.size = 735) (t23 : T[23]?.getD undef = .int .i64 p.n) (t25 : T[25]?.getD undef = .pointer (some ⟨B, 0, none⟩)) (t26 : T[26]?.getD undef = .pointer (some ⟨B + 1, 0, none⟩)) (t28 : T[28]?.getD undef = .pointer (some ⟨B + 3, 0, none⟩)) (t35 : T[35]?.getD undef = .func (.func 8) #[] #[.pointer (some ⟨B, 0, none⟩)]) (t63 : T[63]?.getD undef = .int .i64 r) (t65 : T[65]?.getD undef = .int .i64 i) (t58 : T[58]?.getD undef = v) (t71 : T[71]?.getD undef = .int .i64 1)
    (hQ : ∀ T' w' v', Keeps 81 734 [58, 71, 72] T T' → T'[58]?.getD undef = v' → Want B CA w0 w' v' (xs ++ okL p r i p.n) → Row w' CA 78 36 m → Q .normal ⟨T', []⟩ w') : (blkOf Yba.f3 28).wp Yba.prog Q ⟨T, []⟩ w := by
  conv in (blkOf Yba.f3 28) => whnf
  refine wp_block ?_
  have HQ := hidP hQ
  have HE := hidP he
  have HW0 := hidP (And.intro hw hca)
  have hn6 := hp.n6
  have HP := hidP hp
  obtain ⟨mc, hmc⟩ := he.CA
  have hCAlt := hmc.lt
  clear hQ hp he hw hca hmc
  obtain ⟨i0, hi0, hz0, hz1, hz2⟩ := info_parts info3'
  obtain ⟨I, hI⟩ : ∃ I : Nat → Array Value → World → Prop, I = (fun k T2 wr => ∃ q, 1 ≤ q ∧ q + k = p.n + 1 ∧ Keeps 81 734 [58, 71, 72] T T2 ∧ T2[71]?.getD undef = .int .i64 q ∧ ∃ wv, T2[58]?.getD undef = wv ∧ Want B CA w0 wr wv (xs ++ okL p r i (q - 1)) ∧ Row wr CA 78 36 m) := ⟨_, rfl⟩
  have HI := hidP hI
  clear hI
  refine wp_loop_n I ?_ p.n _ _ ?_
  · intro k T2 wr hIk
    rw [HI.out] at hIk
    obtain ⟨q, hq1, hqk, hK, u71, wv, u58, hw, hca⟩ := hIk
    have hT : T2.size = 735 := hK.1.trans hT0
    have a23 := hK.at' hT 23 (by decide) t23 (by decide) (by decide)
    have a25 := hK.at' hT 25 (by decide) t25 (by decide) (by decide)
    have a26 := hK.at' hT 26 (by decide) t26 (by decide) (by decide)
    have a28 := hK.at' hT 28 (by decide) t28 (by decide) (by decide)
    have a35 := hK.at' hT 35 (by decide) t35 (by decide) (by decide)
    have a63 := hK.at' hT 63 (by decide) t63 (by decide) (by decide)
    have a65 := hK.at' hT 65 (by decide) t65 (by decide) (by decide)
    have a58 : T2[58]'(by omega) = _ := at_of _ u58
    have a71 : T2[71]'(by omega) = _ := at_of _ u71
    have HK := hidP hK
    clear hK u58 u71
    have HW := hidP hw
    have HCA := hidP hca
    have HER := hidP (HE.out.only hw.2.2 ⟨_, hca⟩)
    clear hw hca
    go_upto_if 524 with fail
    refine wp_cond_at (decide (q ≤ p.n)) (by simp [Act.eval, hT]) (fun h => ?_) (fun h => ?_)
    · have hqn : q ≤ p.n := of_decide_eq_true h
      clear h
      refine gen_frame (fun T2 => T2.size = 735 ∧ Keeps 81 734 [58, 71, 72] T T2 ∧ T2[58]?.getD undef = wv ∧ T2[71]?.getD undef = .int .i64 q) ⟨by simp [hT], ?_, by simp [hT, a23, a25, a26, a28, a35, a63, a65, a58, a71], by simp [hT, a23, a25, a26, a28, a35, a63, a65, a58, a71]⟩ ?_
      · repeat (refine Keeps.put ?_ _ _ (by first | exact .inr ⟨by decide, by decide⟩ | exact .inl (by decide)))
        exact HK.out
      clear a23 a25 a26 a28 a35 a63 a65 a58 a71 HK hT
      clear T2
      rintro T2 ⟨hT, hK, u58, u71⟩
      have a23 := hK.at' hT 23 (by decide) t23 (by decide) (by decide)
      have a25 := hK.at' hT 25 (by decide) t25 (by decide) (by decide)
      have a26 := hK.at' hT 26 (by decide) t26 (by decide) (by decide)
      have a28 := hK.at' hT 28 (by decide) t28 (by decide) (by decide)
      have a35 := hK.at' hT 35 (by decide) t35 (by decide) (by decide)
      have a63 := hK.at' hT 63 (by decide) t63 (by decide) (by decide)
      have a65 := hK.at' hT 65 (by decide) t65 (by decide) (by decide)
      have a58 : T2[58]'(by omega) = _ := at_of _ u58
      have a71 : T2[71]'(by omega) = _ := at_of _ u71
      have HK := hidP hK
      clear hK u58 u71
      obtain ⟨r1, hr1e⟩ : ∃ r1, r1 = r - 1 := ⟨_, rfl⟩
      obtain ⟨i1, hi1e⟩ : ∃ i1, i1 = i - 1 := ⟨_, rfl⟩
      have hrI : (r : Int) - 1 = (r1 : Int) := by omega
      have wr1 : IntKind.i64.wrap (r1 : Int) = (r1 : Int) := by rw [IntKind.wrap_i64]; omega
      have hii : (i : Int) - 1 = (i1 : Int) := by omega
      have i1b : IntKind.i64.wrap (i1 : Int) = (i1 : Int) := by rw [IntKind.wrap_i64]; omega
      have iq1 : (0 : Int) ≤ (q : Int) := by omega
      have iq2 : (q : Int) < 7 := by omega
      have ir1 : (0 : Int) ≤ (r : Int) := by omega
      have ir2 : (r : Int) < 6 := by omega
      have ii1 : (0 : Int) ≤ (i : Int) := by omega
      have ii2 : (i : Int) < 7 := by omega
      obtain ⟨cq, hcq⟩ : ∃ cq, cq = upTo p.n p.crA q := ⟨_, rfl⟩
      obtain ⟨rq, hrq⟩ : ∃ rq, rq = upTo p.n p.reA q := ⟨_, rfl⟩
      have h81 := ownCompletes B 23 q r1 (upTo p.n p.crA) wr HER.out.C (by omega)
      have h82 := ownCompletes B 23 q r (upTo p.n p.crA) wr HER.out.C (by omega)
      have cL := HER.out.L.cell (q * 42 + r * 7 + i) (by omega)
      have cC := HER.out.C.cell q (by omega)
      have cRM := HER.out.RM.cell q (by omega)
      rw [← hcq] at cC
      rw [← hrq] at cRM
      have s58 : T2[58]?.getD undef = wv := by simp [hT, a58]
      have s71 : T2[71]?.getD undef = .int .i64 q := by simp [hT, a71]
      have s23 : T2[23]?.getD undef = .int .i64 p.n := by simp [hT, a23]
      have s25 : T2[25]?.getD undef = .pointer (some ⟨B, 0, none⟩) := by simp [hT, a25]
      have s26 : T2[26]?.getD undef = .pointer (some ⟨B + 1, 0, none⟩) := by simp [hT, a26]
      have s28 : T2[28]?.getD undef = .pointer (some ⟨B + 3, 0, none⟩) := by simp [hT, a28]
      have s35 : T2[35]?.getD undef = .func (.func 8) #[] #[.pointer (some ⟨B, 0, none⟩)] := by simp [hT, a35]
      have s63 : T2[63]?.getD undef = .int .i64 r := by simp [hT, a63]
      have s65 : T2[65]?.getD undef = .int .i64 i := by simp [hT, a65]
      obtain ⟨ok, hok⟩ : ∃ ok, ok = okA p r i q := ⟨_, rfl⟩
      have HOK := hidP hok
      clear hok
      have HK2 := hidP (And.intro hr1e (And.intro hi1e (And.intro hcq hrq)))
      clear hr1e hi1e hcq hrq
      go_upto_region 133 with fail
      rename_i K133 hK133
      have HK133 := hidP hK133
      clear hK133
      suffices merge : ∀ T2, T2.size = 735 ∧ Keeps 81 734 [58, 71, 72] T T2 ∧ T2[58]?.getD undef = wv ∧ T2[71]?.getD undef = .int .i64 q ∧ T2[72]?.getD undef = .bool ok → K133 ⟨T2, []⟩ wr by
        have MERGE := hidP merge
        clear merge
        have hokE : okA p r i q = (compl (upTo p.n p.crA) q r1 && !lostT p p.omN (q * 42 + r * 7 + i) && (compl (upTo p.n p.crA) q r || (decide (cq = r) && bitT rq i1))) := by
          obtain ⟨h1, h2, h3, h4⟩ := HK2.out
          rw [h1, h2, h3, h4]
          rfl
        cases h1 : compl (upTo p.n p.crA) q r1 with
        | false =>
          rw [h1] at h81
          have H81 := hidP h81
          clear h81 h82
          refine region_plain _ 735 hT [.func (.func 8) #[] #[.pointer (some ⟨B, 0, none⟩)], .int .i64 q, .int .i64 r, .int .i64 r1, .bool false, .bool false, undef, undef, undef, undef, undef, undef, undef, undef, .bool false, .bool false, undef, undef, undef, undef, undef, undef, undef, undef, undef, undef, undef, undef, undef, undef, undef, undef, undef, undef, undef, undef, undef, undef, .bool false, .bool false] wr (by decide) (by decide) ?_ ?_
          · intro i hi U hU hK hprev
            have hi' : i < 40 := hi
            rcases (by omega : i = 0 ∨ i = 1 ∨ i = 2 ∨ i = 3 ∨ i = 4 ∨ i = 5 ∨ i = 6 ∨ i = 7 ∨ i = 8 ∨ i = 9 ∨ i = 10 ∨ i = 11 ∨ i = 12 ∨ i = 13 ∨ i = 14 ∨ i = 15 ∨ i = 16 ∨ i = 17 ∨ i = 18 ∨ i = 19 ∨ i = 20 ∨ i = 21 ∨ i = 22 ∨ i = 23 ∨ i = 24 ∨ i = 25 ∨ i = 26 ∨ i = 27 ∨ i = 28 ∨ i = 29 ∨ i = 30 ∨ i = 31 ∨ i = 32 ∨ i = 33 ∨ i = 34 ∨ i = 35 ∨ i = 36 ∨ i = 37 ∨ i = 38 ∨ i = 39) with rfl | rfl | rfl | rfl | rfl | rfl | rfl | rfl | rfl | rfl | rfl | rfl | rfl | rfl | rfl | rfl | rfl | rfl | rfl | rfl | rfl | rfl | rfl | rfl | rfl | rfl | rfl | rfl | rfl | rfl | rfl | rfl | rfl | rfl | rfl | rfl | rfl | rfl | rfl | rfl
            · have hx35 : U[35]?.getD undef = .func (.func 8) #[] #[.pointer (some ⟨B, 0, none⟩)] := kept_of hK 35 (by decide) (by assumption)
              refine .inl ⟨want_none rfl, ?_⟩
              refine step_of_run (v := .func (.func 8) #[] #[.pointer (some ⟨B, 0, none⟩)]) (w' := _) ?_ ⟨rfl, _, rfl, (fun h => by cases h), rfl⟩
              simp [execOp, go_sem, hx35, hrI, wr1]
            · have hx71 : U[71]?.getD undef = .int .i64 q := kept_of hK 71 (by decide) (by assumption)
              refine .inl ⟨want_none rfl, ?_⟩
              refine step_of_run (v := .int .i64 q) (w' := _) ?_ ⟨rfl, _, rfl, (fun h => by cases h), rfl⟩
              simp [execOp, go_sem, hx71, hrI, wr1]
            · have hx63 : U[63]?.getD undef = .int .i64 r := kept_of hK 63 (by decide) (by assumption)
              refine .inl ⟨want_none rfl, ?_⟩
              refine step_of_run (v := .int .i64 r) (w' := _) ?_ ⟨rfl, _, rfl, (fun h => by cases h), rfl⟩
              simp [execOp, go_sem, hx63, hrI, wr1]
            · have d2 : U[529]?.getD undef = .int .i64 r := slot_of (hprev 2 (by decide)) rfl
              refine .inl ⟨want_none rfl, ?_⟩
              refine step_of_run (v := .int .i64 r1) (w' := _) ?_ ⟨rfl, _, rfl, (fun h => by cases h), rfl⟩
              simp [execOp, go_sem, d2, hrI, wr1]
            · have d0 : U[527]?.getD undef = .func (.func 8) #[] #[.pointer (some ⟨B, 0, none⟩)] := slot_of (hprev 0 (by decide)) rfl
              have d1 : U[528]?.getD undef = .int .i64 q := slot_of (hprev 1 (by decide)) rfl
              have d3 : U[530]?.getD undef = .int .i64 r1 := slot_of (hprev 3 (by decide)) rfl
              refine .inl ⟨want_none rfl, ?_⟩
              refine step_of_call (f := 8) (args := #[.int .i64 q, .int .i64 r1, .pointer (some ⟨B, 0, none⟩)]) (w' := wr) ?_ (H81.out.mono ?_)
              · simp [execOp, go_sem, d0, d1, d3]
              · rintro e w9 ⟨rfl, hw9⟩
                exact ⟨_, rfl, hw9, _, rfl, (fun h => by cases h), rfl⟩
            · have d4 : U[531]?.getD undef = .bool false := slot_of (hprev 4 (by decide)) rfl
              refine .inl ⟨want_none rfl, ?_⟩
              refine step_of_run (v := .bool false) (w' := _) ?_ ⟨rfl, _, rfl, (fun h => by cases h), rfl⟩
              simp [execOp, go_sem, d4, hrI, wr1]
            · exact .inr ⟨skip_of (d := 532) rfl rfl (by omega) (slot_of (hprev 5 (by decide)) rfl), rfl⟩
            · exact .inr ⟨skip_of (d := 532) rfl rfl (by omega) (slot_of (hprev 5 (by decide)) rfl), rfl⟩
            · exact .inr ⟨skip_of (d := 532) rfl rfl (by omega) (slot_of (hprev 5 (by decide)) rfl), rfl⟩
            · exact .inr ⟨skip_of (d := 532) rfl rfl (by omega) (slot_of (hprev 5 (by decide)) rfl), rfl⟩
            · exact .inr ⟨skip_of (d := 532) rfl rfl (by omega) (slot_of (hprev 5 (by decide)) rfl), rfl⟩
            · exact .inr ⟨skip_of (d := 532) rfl rfl (by omega) (slot_of (hprev 5 (by decide)) rfl), rfl⟩
            · exact .inr ⟨skip_of (d := 532) rfl rfl (by omega) (slot_of (hprev 5 (by decide)) rfl), rfl⟩
            · exact .inr ⟨skip_of (d := 532) rfl rfl (by omega) (slot_of (hprev 5 (by decide)) rfl), rfl⟩
            · have d5 : U[532]?.getD undef = .bool false := slot_of (hprev 5 (by decide)) rfl
              have d13 : U[540]?.getD undef = undef := slot_of (hprev 13 (by decide)) rfl
              refine .inl ⟨want_none rfl, ?_⟩
              refine step_of_run (v := .bool false) (w' := _) ?_ ⟨rfl, _, rfl, (fun h => by cases h), rfl⟩
              simp [execOp, go_sem, d5, d13, hrI, wr1]
            · have d14 : U[541]?.getD undef = .bool false := slot_of (hprev 14 (by decide)) rfl
              refine .inl ⟨want_none rfl, ?_⟩
              refine step_of_run (v := .bool false) (w' := _) ?_ ⟨rfl, _, rfl, (fun h => by cases h), rfl⟩
              simp [execOp, go_sem, d14, hrI, wr1]
            · exact .inr ⟨skip_of (d := 542) rfl rfl (by omega) (slot_of (hprev 15 (by decide)) rfl), rfl⟩
            · exact .inr ⟨skip_of (d := 542) rfl rfl (by omega) (slot_of (hprev 15 (by decide)) rfl), rfl⟩
            · exact .inr ⟨skip_of (d := 542) rfl rfl (by omega) (slot_of (hprev 15 (by decide)) rfl), rfl⟩
            · exact .inr ⟨skip_of (d := 542) rfl rfl (by omega) (slot_of (hprev 15 (by decide)) rfl), rfl⟩
            · exact .inr ⟨skip_of (d := 542) rfl rfl (by omega) (slot_of (hprev 15 (by decide)) rfl), rfl⟩
            · exact .inr ⟨skip_undef (d := 547) rfl rfl (by omega) (slot_of (hprev 20 (by decide)) rfl), rfl⟩
            · exact .inr ⟨skip_undef (d := 547) rfl rfl (by omega) (slot_of (hprev 20 (by decide)) rfl), rfl⟩
            · exact .inr ⟨skip_undef (d := 547) rfl rfl (by omega) (slot_of (hprev 20 (by decide)) rfl), rfl⟩
            · exact .inr ⟨skip_undef (d := 547) rfl rfl (by omega) (slot_of (hprev 20 (by decide)) rfl), rfl⟩
            · exact .inr ⟨skip_undef (d := 547) rfl rfl (by omega) (slot_of (hprev 20 (by decide)) rfl), rfl⟩
            · exact .inr ⟨skip_undef (d := 547) rfl rfl (by omega) (slot_of (hprev 20 (by decide)) rfl), rfl⟩
            · exact .inr ⟨skip_undef (d := 553) rfl rfl (by omega) (slot_of (hprev 26 (by decide)) rfl), rfl⟩
            · exact .inr ⟨skip_undef (d := 553) rfl rfl (by omega) (slot_of (hprev 26 (by decide)) rfl), rfl⟩
            · exact .inr ⟨skip_undef (d := 553) rfl rfl (by omega) (slot_of (hprev 26 (by decide)) rfl), rfl⟩
            · exact .inr ⟨skip_undef (d := 553) rfl rfl (by omega) (slot_of (hprev 26 (by decide)) rfl), rfl⟩
            · exact .inr ⟨skip_undef (d := 553) rfl rfl (by omega) (slot_of (hprev 26 (by decide)) rfl), rfl⟩
            · exact .inr ⟨skip_undef (d := 553) rfl rfl (by omega) (slot_of (hprev 26 (by decide)) rfl), rfl⟩
            · exact .inr ⟨skip_undef (d := 553) rfl rfl (by omega) (slot_of (hprev 26 (by decide)) rfl), rfl⟩
            · exact .inr ⟨skip_undef (d := 553) rfl rfl (by omega) (slot_of (hprev 26 (by decide)) rfl), rfl⟩
            · exact .inr ⟨skip_undef (d := 553) rfl rfl (by omega) (slot_of (hprev 26 (by decide)) rfl), rfl⟩
            · exact .inr ⟨skip_undef (d := 547) rfl rfl (by omega) (slot_of (hprev 20 (by decide)) rfl), rfl⟩
            · exact .inr ⟨skip_of (d := 542) rfl rfl (by omega) (slot_of (hprev 15 (by decide)) rfl), rfl⟩
            · have d15 : U[542]?.getD undef = .bool false := slot_of (hprev 15 (by decide)) rfl
              have d37 : U[564]?.getD undef = undef := slot_of (hprev 37 (by decide)) rfl
              refine .inl ⟨want_none rfl, ?_⟩
              refine step_of_run (v := .bool false) (w' := _) ?_ ⟨rfl, _, rfl, (fun h => by cases h), rfl⟩
              simp [execOp, go_sem, d15, d37, hrI, wr1]
            · have d38 : U[565]?.getD undef = .bool false := slot_of (hprev 38 (by decide)) rfl
              refine .inl ⟨want_none rfl, ?_⟩
              refine step_of_run (v := .bool false) (w' := _) ?_ ⟨rfl, _, rfl, (fun h => by cases h), rfl⟩
              simp [execOp, go_sem, d38, hrI, wr1]
          · intro U hU hKU hall
            have b72 : U[72]?.getD undef = .bool false := slot_of (hall 39 (by decide)) rfl
            exact MERGE.out U ⟨hU, Keeps.trans HK.out (Kept.keeps (lo := 81) (hi := 734) (vs := [58, 71, 72]) hKU (hU.trans hT.symm) (by decide)), kept_of hKU 58 (by decide) s58, kept_of hKU 71 (by decide) s71, b72.trans (by rw [HOK.out, hokE]; simp [h1])⟩
        | true =>
          rw [h1] at h81
          have H81 := hidP h81
          clear h81
          cases h2 : lostT p p.omN (q * 42 + r * 7 + i) with
          | true =>
            rw [h2] at cL
            clear h82
            refine region_plain _ 735 hT [.func (.func 8) #[] #[.pointer (some ⟨B, 0, none⟩)], .int .i64 q, .int .i64 r, .int .i64 r1, .bool true, .bool true, .int .i64 q, .int .i64 r, .int .i64 i, .pointer (some ⟨B + 3, q * 42, none⟩), .pointer (some ⟨B + 3, q * 42 + r * 7, none⟩), .pointer (some ⟨B + 3, q * 42 + r * 7 + i, none⟩), .bool true, .bool false, .bool false, .bool false, undef, undef, undef, undef, undef, undef, undef, undef, undef, undef, undef, undef, undef, undef, undef, undef, undef, undef, undef, undef, undef, undef, .bool false, .bool false] wr (by decide) (by decide) ?_ ?_
            · intro i hi U hU hK hprev
              have hi' : i < 40 := hi
              rcases (by omega : i = 0 ∨ i = 1 ∨ i = 2 ∨ i = 3 ∨ i = 4 ∨ i = 5 ∨ i = 6 ∨ i = 7 ∨ i = 8 ∨ i = 9 ∨ i = 10 ∨ i = 11 ∨ i = 12 ∨ i = 13 ∨ i = 14 ∨ i = 15 ∨ i = 16 ∨ i = 17 ∨ i = 18 ∨ i = 19 ∨ i = 20 ∨ i = 21 ∨ i = 22 ∨ i = 23 ∨ i = 24 ∨ i = 25 ∨ i = 26 ∨ i = 27 ∨ i = 28 ∨ i = 29 ∨ i = 30 ∨ i = 31 ∨ i = 32 ∨ i = 33 ∨ i = 34 ∨ i = 35 ∨ i = 36 ∨ i = 37 ∨ i = 38 ∨ i = 39) with rfl | rfl | rfl | rfl | rfl | rfl | rfl | rfl | rfl | rfl | rfl | rfl | rfl | rfl | rfl | rfl | rfl | rfl | rfl | rfl | rfl | rfl | rfl | rfl | rfl | rfl | rfl | rfl | rfl | rfl | rfl | rfl | rfl | rfl | rfl | rfl | rfl | rfl | rfl | rfl
              · have hx35 : U[35]?.getD undef = .func (.func 8) #[] #[.pointer (some ⟨B, 0, none⟩)] := kept_of hK 35 (by decide) (by assumption)
                refine .inl ⟨want_none rfl, ?_⟩
                refine step_of_run (v := .func (.func 8) #[] #[.pointer (some ⟨B, 0, none⟩)]) (w' := _) ?_ ⟨rfl, _, rfl, (fun h => by cases h), rfl⟩
                simp [execOp, go_sem, hx35, hrI, wr1, iq1, iq2, ir1, ir2, ii1, ii2, cL]
              · have hx71 : U[71]?.getD undef = .int .i64 q := kept_of hK 71 (by decide) (by assumption)
                refine .inl ⟨want_none rfl, ?_⟩
                refine step_of_run (v := .int .i64 q) (w' := _) ?_ ⟨rfl, _, rfl, (fun h => by cases h), rfl⟩
                simp [execOp, go_sem, hx71, hrI, wr1, iq1, iq2, ir1, ir2, ii1, ii2, cL]
              · have hx63 : U[63]?.getD undef = .int .i64 r := kept_of hK 63 (by decide) (by assumption)
                refine .inl ⟨want_none rfl, ?_⟩
                refine step_of_run (v := .int .i64 r) (w' := _) ?_ ⟨rfl, _, rfl, (fun h => by cases h), rfl⟩
                simp [execOp, go_sem, hx63, hrI, wr1, iq1, iq2, ir1, ir2, ii1, ii2, cL]
              · have d2 : U[529]?.getD undef = .int .i64 r := slot_of (hprev 2 (by decide)) rfl
                refine .inl ⟨want_none rfl, ?_⟩
                refine step_of_run (v := .int .i64 r1) (w' := _) ?_ ⟨rfl, _, rfl, (fun h => by cases h), rfl⟩
                simp [execOp, go_sem, d2, hrI, wr1, iq1, iq2, ir1, ir2, ii1, ii2, cL]
              · have d0 : U[527]?.getD undef = .func (.func 8) #[] #[.pointer (some ⟨B, 0, none⟩)] := slot_of (hprev 0 (by decide)) rfl
                have d1 : U[528]?.getD undef = .int .i64 q := slot_of (hprev 1 (by decide)) rfl
                have d3 : U[530]?.getD undef = .int .i64 r1 := slot_of (hprev 3 (by decide)) rfl
                refine .inl ⟨want_none rfl, ?_⟩
                refine step_of_call (f := 8) (args := #[.int .i64 q, .int .i64 r1, .pointer (some ⟨B, 0, none⟩)]) (w' := wr) ?_ (H81.out.mono ?_)
                · simp [execOp, go_sem, d0, d1, d3]
                · rintro e w9 ⟨rfl, hw9⟩
                  exact ⟨_, rfl, hw9, _, rfl, (fun h => by cases h), rfl⟩
              · have d4 : U[531]?.getD undef = .bool true := slot_of (hprev 4 (by decide)) rfl
                refine .inl ⟨want_none rfl, ?_⟩
                refine step_of_run (v := .bool true) (w' := _) ?_ ⟨rfl, _, rfl, (fun h => by cases h), rfl⟩
                simp [execOp, go_sem, d4, hrI, wr1, iq1, iq2, ir1, ir2, ii1, ii2, cL]
              · have hx71 : U[71]?.getD undef = .int .i64 q := kept_of hK 71 (by decide) (by assumption)
                refine .inl ⟨want_of (d := 532) rfl rfl (by omega) (slot_of (hprev 5 (by decide)) rfl), ?_⟩
                refine step_of_run (v := .int .i64 q) (w' := _) ?_ ⟨rfl, _, rfl, (fun h => by cases h), rfl⟩
                simp [execOp, go_sem, hx71, hrI, wr1, iq1, iq2, ir1, ir2, ii1, ii2, cL]
              · have hx63 : U[63]?.getD undef = .int .i64 r := kept_of hK 63 (by decide) (by assumption)
                refine .inl ⟨want_of (d := 532) rfl rfl (by omega) (slot_of (hprev 5 (by decide)) rfl), ?_⟩
                refine step_of_run (v := .int .i64 r) (w' := _) ?_ ⟨rfl, _, rfl, (fun h => by cases h), rfl⟩
                simp [execOp, go_sem, hx63, hrI, wr1, iq1, iq2, ir1, ir2, ii1, ii2, cL]
              · have hx65 : U[65]?.getD undef = .int .i64 i := kept_of hK 65 (by decide) (by assumption)
                refine .inl ⟨want_of (d := 532) rfl rfl (by omega) (slot_of (hprev 5 (by decide)) rfl), ?_⟩
                refine step_of_run (v := .int .i64 i) (w' := _) ?_ ⟨rfl, _, rfl, (fun h => by cases h), rfl⟩
                simp [execOp, go_sem, hx65, hrI, wr1, iq1, iq2, ir1, ir2, ii1, ii2, cL]
              · have hx28 : U[28]?.getD undef = .pointer (some ⟨B + 3, 0, none⟩) := kept_of hK 28 (by decide) (by assumption)
                have d6 : U[533]?.getD undef = .int .i64 q := slot_of (hprev 6 (by decide)) rfl
                refine .inl ⟨want_of (d := 532) rfl rfl (by omega) (slot_of (hprev 5 (by decide)) rfl), ?_⟩
                refine step_of_run (v := .pointer (some ⟨B + 3, q * 42, none⟩)) (w' := _) ?_ ⟨rfl, _, rfl, (fun h => by cases h), rfl⟩
                simp [execOp, go_sem, hx28, d6, hrI, wr1, iq1, iq2, ir1, ir2, ii1, ii2, cL]
              · have d9 : U[536]?.getD undef = .pointer (some ⟨B + 3, q * 42, none⟩) := slot_of (hprev 9 (by decide)) rfl
                have d7 : U[534]?.getD undef = .int .i64 r := slot_of (hprev 7 (by decide)) rfl
                refine .inl ⟨want_of (d := 532) rfl rfl (by omega) (slot_of (hprev 5 (by decide)) rfl), ?_⟩
                refine step_of_run (v := .pointer (some ⟨B + 3, q * 42 + r * 7, none⟩)) (w' := _) ?_ ⟨rfl, _, rfl, (fun h => by cases h), rfl⟩
                simp [execOp, go_sem, d9, d7, hrI, wr1, iq1, iq2, ir1, ir2, ii1, ii2, cL]
              · have d10 : U[537]?.getD undef = .pointer (some ⟨B + 3, q * 42 + r * 7, none⟩) := slot_of (hprev 10 (by decide)) rfl
                have d8 : U[535]?.getD undef = .int .i64 i := slot_of (hprev 8 (by decide)) rfl
                refine .inl ⟨want_of (d := 532) rfl rfl (by omega) (slot_of (hprev 5 (by decide)) rfl), ?_⟩
                refine step_of_run (v := .pointer (some ⟨B + 3, q * 42 + r * 7 + i, none⟩)) (w' := _) ?_ ⟨rfl, _, rfl, (fun h => by cases h), rfl⟩
                simp [execOp, go_sem, d10, d8, hrI, wr1, iq1, iq2, ir1, ir2, ii1, ii2, cL]
              · have d11 : U[538]?.getD undef = .pointer (some ⟨B + 3, q * 42 + r * 7 + i, none⟩) := slot_of (hprev 11 (by decide)) rfl
                refine .inl ⟨want_of (d := 532) rfl rfl (by omega) (slot_of (hprev 5 (by decide)) rfl), ?_⟩
                refine step_of_run (v := .bool true) (w' := _) ?_ ⟨rfl, _, rfl, (fun h => by cases h), rfl⟩
                simp [execOp, go_sem, d11, hrI, wr1, iq1, iq2, ir1, ir2, ii1, ii2, cL]
              · have d12 : U[539]?.getD undef = .bool true := slot_of (hprev 12 (by decide)) rfl
                refine .inl ⟨want_of (d := 532) rfl rfl (by omega) (slot_of (hprev 5 (by decide)) rfl), ?_⟩
                refine step_of_run (v := .bool false) (w' := _) ?_ ⟨rfl, _, rfl, (fun h => by cases h), rfl⟩
                simp [execOp, go_sem, d12, hrI, wr1, iq1, iq2, ir1, ir2, ii1, ii2, cL]
              · have d5 : U[532]?.getD undef = .bool true := slot_of (hprev 5 (by decide)) rfl
                have d13 : U[540]?.getD undef = .bool false := slot_of (hprev 13 (by decide)) rfl
                refine .inl ⟨want_none rfl, ?_⟩
                refine step_of_run (v := .bool false) (w' := _) ?_ ⟨rfl, _, rfl, (fun h => by cases h), rfl⟩
                simp [execOp, go_sem, d5, d13, hrI, wr1, iq1, iq2, ir1, ir2, ii1, ii2, cL]
              · have d14 : U[541]?.getD undef = .bool false := slot_of (hprev 14 (by decide)) rfl
                refine .inl ⟨want_none rfl, ?_⟩
                refine step_of_run (v := .bool false) (w' := _) ?_ ⟨rfl, _, rfl, (fun h => by cases h), rfl⟩
                simp [execOp, go_sem, d14, hrI, wr1, iq1, iq2, ir1, ir2, ii1, ii2, cL]
              · exact .inr ⟨skip_of (d := 542) rfl rfl (by omega) (slot_of (hprev 15 (by decide)) rfl), rfl⟩
              · exact .inr ⟨skip_of (d := 542) rfl rfl (by omega) (slot_of (hprev 15 (by decide)) rfl), rfl⟩
              · exact .inr ⟨skip_of (d := 542) rfl rfl (by omega) (slot_of (hprev 15 (by decide)) rfl), rfl⟩
              · exact .inr ⟨skip_of (d := 542) rfl rfl (by omega) (slot_of (hprev 15 (by decide)) rfl), rfl⟩
              · exact .inr ⟨skip_of (d := 542) rfl rfl (by omega) (slot_of (hprev 15 (by decide)) rfl), rfl⟩
              · exact .inr ⟨skip_undef (d := 547) rfl rfl (by omega) (slot_of (hprev 20 (by decide)) rfl), rfl⟩
              · exact .inr ⟨skip_undef (d := 547) rfl rfl (by omega) (slot_of (hprev 20 (by decide)) rfl), rfl⟩
              · exact .inr ⟨skip_undef (d := 547) rfl rfl (by omega) (slot_of (hprev 20 (by decide)) rfl), rfl⟩
              · exact .inr ⟨skip_undef (d := 547) rfl rfl (by omega) (slot_of (hprev 20 (by decide)) rfl), rfl⟩
              · exact .inr ⟨skip_undef (d := 547) rfl rfl (by omega) (slot_of (hprev 20 (by decide)) rfl), rfl⟩
              · exact .inr ⟨skip_undef (d := 547) rfl rfl (by omega) (slot_of (hprev 20 (by decide)) rfl), rfl⟩
              · exact .inr ⟨skip_undef (d := 553) rfl rfl (by omega) (slot_of (hprev 26 (by decide)) rfl), rfl⟩
              · exact .inr ⟨skip_undef (d := 553) rfl rfl (by omega) (slot_of (hprev 26 (by decide)) rfl), rfl⟩
              · exact .inr ⟨skip_undef (d := 553) rfl rfl (by omega) (slot_of (hprev 26 (by decide)) rfl), rfl⟩
              · exact .inr ⟨skip_undef (d := 553) rfl rfl (by omega) (slot_of (hprev 26 (by decide)) rfl), rfl⟩
              · exact .inr ⟨skip_undef (d := 553) rfl rfl (by omega) (slot_of (hprev 26 (by decide)) rfl), rfl⟩
              · exact .inr ⟨skip_undef (d := 553) rfl rfl (by omega) (slot_of (hprev 26 (by decide)) rfl), rfl⟩
              · exact .inr ⟨skip_undef (d := 553) rfl rfl (by omega) (slot_of (hprev 26 (by decide)) rfl), rfl⟩
              · exact .inr ⟨skip_undef (d := 553) rfl rfl (by omega) (slot_of (hprev 26 (by decide)) rfl), rfl⟩
              · exact .inr ⟨skip_undef (d := 553) rfl rfl (by omega) (slot_of (hprev 26 (by decide)) rfl), rfl⟩
              · exact .inr ⟨skip_undef (d := 547) rfl rfl (by omega) (slot_of (hprev 20 (by decide)) rfl), rfl⟩
              · exact .inr ⟨skip_of (d := 542) rfl rfl (by omega) (slot_of (hprev 15 (by decide)) rfl), rfl⟩
              · have d15 : U[542]?.getD undef = .bool false := slot_of (hprev 15 (by decide)) rfl
                have d37 : U[564]?.getD undef = undef := slot_of (hprev 37 (by decide)) rfl
                refine .inl ⟨want_none rfl, ?_⟩
                refine step_of_run (v := .bool false) (w' := _) ?_ ⟨rfl, _, rfl, (fun h => by cases h), rfl⟩
                simp [execOp, go_sem, d15, d37, hrI, wr1, iq1, iq2, ir1, ir2, ii1, ii2, cL]
              · have d38 : U[565]?.getD undef = .bool false := slot_of (hprev 38 (by decide)) rfl
                refine .inl ⟨want_none rfl, ?_⟩
                refine step_of_run (v := .bool false) (w' := _) ?_ ⟨rfl, _, rfl, (fun h => by cases h), rfl⟩
                simp [execOp, go_sem, d38, hrI, wr1, iq1, iq2, ir1, ir2, ii1, ii2, cL]
            · intro U hU hKU hall
              have b72 : U[72]?.getD undef = .bool false := slot_of (hall 39 (by decide)) rfl
              exact MERGE.out U ⟨hU, Keeps.trans HK.out (Kept.keeps (lo := 81) (hi := 734) (vs := [58, 71, 72]) hKU (hU.trans hT.symm) (by decide)), kept_of hKU 58 (by decide) s58, kept_of hKU 71 (by decide) s71, b72.trans (by rw [HOK.out, hokE]; simp [h1, h2])⟩
          | false =>
            rw [h2] at cL
            cases h3 : compl (upTo p.n p.crA) q r with
            | true =>
              rw [h3] at h82
              have H82 := hidP h82
              clear h82
              refine region_plain _ 735 hT [.func (.func 8) #[] #[.pointer (some ⟨B, 0, none⟩)], .int .i64 q, .int .i64 r, .int .i64 r1, .bool true, .bool true, .int .i64 q, .int .i64 r, .int .i64 i, .pointer (some ⟨B + 3, q * 42, none⟩), .pointer (some ⟨B + 3, q * 42 + r * 7, none⟩), .pointer (some ⟨B + 3, q * 42 + r * 7 + i, none⟩), .bool false, .bool true, .bool true, .bool true, .func (.func 8) #[] #[.pointer (some ⟨B, 0, none⟩)], .int .i64 q, .int .i64 r, .bool true, .bool true, undef, undef, undef, undef, undef, undef, undef, undef, undef, undef, undef, undef, undef, undef, undef, undef, .bool true, .bool true, .bool true] wr (by decide) (by decide) ?_ ?_
              · intro i hi U hU hK hprev
                have hi' : i < 40 := hi
                rcases (by omega : i = 0 ∨ i = 1 ∨ i = 2 ∨ i = 3 ∨ i = 4 ∨ i = 5 ∨ i = 6 ∨ i = 7 ∨ i = 8 ∨ i = 9 ∨ i = 10 ∨ i = 11 ∨ i = 12 ∨ i = 13 ∨ i = 14 ∨ i = 15 ∨ i = 16 ∨ i = 17 ∨ i = 18 ∨ i = 19 ∨ i = 20 ∨ i = 21 ∨ i = 22 ∨ i = 23 ∨ i = 24 ∨ i = 25 ∨ i = 26 ∨ i = 27 ∨ i = 28 ∨ i = 29 ∨ i = 30 ∨ i = 31 ∨ i = 32 ∨ i = 33 ∨ i = 34 ∨ i = 35 ∨ i = 36 ∨ i = 37 ∨ i = 38 ∨ i = 39) with rfl | rfl | rfl | rfl | rfl | rfl | rfl | rfl | rfl | rfl | rfl | rfl | rfl | rfl | rfl | rfl | rfl | rfl | rfl | rfl | rfl | rfl | rfl | rfl | rfl | rfl | rfl | rfl | rfl | rfl | rfl | rfl | rfl | rfl | rfl | rfl | rfl | rfl | rfl | rfl
                · have hx35 : U[35]?.getD undef = .func (.func 8) #[] #[.pointer (some ⟨B, 0, none⟩)] := kept_of hK 35 (by decide) (by assumption)
                  refine .inl ⟨want_none rfl, ?_⟩
                  refine step_of_run (v := .func (.func 8) #[] #[.pointer (some ⟨B, 0, none⟩)]) (w' := _) ?_ ⟨rfl, _, rfl, (fun h => by cases h), rfl⟩
                  simp [execOp, go_sem, hx35, hrI, wr1, iq1, iq2, ir1, ir2, ii1, ii2, cL]
                · have hx71 : U[71]?.getD undef = .int .i64 q := kept_of hK 71 (by decide) (by assumption)
                  refine .inl ⟨want_none rfl, ?_⟩
                  refine step_of_run (v := .int .i64 q) (w' := _) ?_ ⟨rfl, _, rfl, (fun h => by cases h), rfl⟩
                  simp [execOp, go_sem, hx71, hrI, wr1, iq1, iq2, ir1, ir2, ii1, ii2, cL]
                · have hx63 : U[63]?.getD undef = .int .i64 r := kept_of hK 63 (by decide) (by assumption)
                  refine .inl ⟨want_none rfl, ?_⟩
                  refine step_of_run (v := .int .i64 r) (w' := _) ?_ ⟨rfl, _, rfl, (fun h => by cases h), rfl⟩
                  simp [execOp, go_sem, hx63, hrI, wr1, iq1, iq2, ir1, ir2, ii1, ii2, cL]
                · have d2 : U[529]?.getD undef = .int .i64 r := slot_of (hprev 2 (by decide)) rfl
                  refine .inl ⟨want_none rfl, ?_⟩
                  refine step_of_run (v := .int .i64 r1) (w' := _) ?_ ⟨rfl, _, rfl, (fun h => by cases h), rfl⟩
                  simp [execOp, go_sem, d2, hrI, wr1, iq1, iq2, ir1, ir2, ii1, ii2, cL]
                · have d0 : U[527]?.getD undef = .func (.func 8) #[] #[.pointer (some ⟨B, 0, none⟩)] := slot_of (hprev 0 (by decide)) rfl
                  have d1 : U[528]?.getD undef = .int .i64 q := slot_of (hprev 1 (by decide)) rfl
                  have d3 : U[530]?.getD undef = .int .i64 r1 := slot_of (hprev 3 (by decide)) rfl
                  refine .inl ⟨want_none rfl, ?_⟩
                  refine step_of_call (f := 8) (args := #[.int .i64 q, .int .i64 r1, .pointer (some ⟨B, 0, none⟩)]) (w' := wr) ?_ (H81.out.mono ?_)
                  · simp [execOp, go_sem, d0, d1, d3]
                  · rintro e w9 ⟨rfl, hw9⟩
                    exact ⟨_, rfl, hw9, _, rfl, (fun h => by cases h), rfl⟩
                · have d4 : U[531]?.getD undef = .bool true := slot_of (hprev 4 (by decide)) rfl
                  refine .inl ⟨want_none rfl, ?_⟩
                  refine step_of_run (v := .bool true) (w' := _) ?_ ⟨rfl, _, rfl, (fun h => by cases h), rfl⟩
                  simp [execOp, go_sem, d4, hrI, wr1, iq1, iq2, ir1, ir2, ii1, ii2, cL]
                · have hx71 : U[71]?.getD undef = .int .i64 q := kept_of hK 71 (by decide) (by assumption)
                  refine .inl ⟨want_of (d := 532) rfl rfl (by omega) (slot_of (hprev 5 (by decide)) rfl), ?_⟩
                  refine step_of_run (v := .int .i64 q) (w' := _) ?_ ⟨rfl, _, rfl, (fun h => by cases h), rfl⟩
                  simp [execOp, go_sem, hx71, hrI, wr1, iq1, iq2, ir1, ir2, ii1, ii2, cL]
                · have hx63 : U[63]?.getD undef = .int .i64 r := kept_of hK 63 (by decide) (by assumption)
                  refine .inl ⟨want_of (d := 532) rfl rfl (by omega) (slot_of (hprev 5 (by decide)) rfl), ?_⟩
                  refine step_of_run (v := .int .i64 r) (w' := _) ?_ ⟨rfl, _, rfl, (fun h => by cases h), rfl⟩
                  simp [execOp, go_sem, hx63, hrI, wr1, iq1, iq2, ir1, ir2, ii1, ii2, cL]
                · have hx65 : U[65]?.getD undef = .int .i64 i := kept_of hK 65 (by decide) (by assumption)
                  refine .inl ⟨want_of (d := 532) rfl rfl (by omega) (slot_of (hprev 5 (by decide)) rfl), ?_⟩
                  refine step_of_run (v := .int .i64 i) (w' := _) ?_ ⟨rfl, _, rfl, (fun h => by cases h), rfl⟩
                  simp [execOp, go_sem, hx65, hrI, wr1, iq1, iq2, ir1, ir2, ii1, ii2, cL]
                · have hx28 : U[28]?.getD undef = .pointer (some ⟨B + 3, 0, none⟩) := kept_of hK 28 (by decide) (by assumption)
                  have d6 : U[533]?.getD undef = .int .i64 q := slot_of (hprev 6 (by decide)) rfl
                  refine .inl ⟨want_of (d := 532) rfl rfl (by omega) (slot_of (hprev 5 (by decide)) rfl), ?_⟩
                  refine step_of_run (v := .pointer (some ⟨B + 3, q * 42, none⟩)) (w' := _) ?_ ⟨rfl, _, rfl, (fun h => by cases h), rfl⟩
                  simp [execOp, go_sem, hx28, d6, hrI, wr1, iq1, iq2, ir1, ir2, ii1, ii2, cL]
                · have d9 : U[536]?.getD undef = .pointer (some ⟨B + 3, q * 42, none⟩) := slot_of (hprev 9 (by decide)) rfl
                  have d7 : U[534]?.getD undef = .int .i64 r := slot_of (hprev 7 (by decide)) rfl
                  refine .inl ⟨want_of (d := 532) rfl rfl (by omega) (slot_of (hprev 5 (by decide)) rfl), ?_⟩
                  refine step_of_run (v := .pointer (some ⟨B + 3, q * 42 + r * 7, none⟩)) (w' := _) ?_ ⟨rfl, _, rfl, (fun h => by cases h), rfl⟩
                  simp [execOp, go_sem, d9, d7, hrI, wr1, iq1, iq2, ir1, ir2, ii1, ii2, cL]
                · have d10 : U[537]?.getD undef = .pointer (some ⟨B + 3, q * 42 + r * 7, none⟩) := slot_of (hprev 10 (by decide)) rfl
                  have d8 : U[535]?.getD undef = .int .i64 i := slot_of (hprev 8 (by decide)) rfl
                  refine .inl ⟨want_of (d := 532) rfl rfl (by omega) (slot_of (hprev 5 (by decide)) rfl), ?_⟩
                  refine step_of_run (v := .pointer (some ⟨B + 3, q * 42 + r * 7 + i, none⟩)) (w' := _) ?_ ⟨rfl, _, rfl, (fun h => by cases h), rfl⟩
                  simp [execOp, go_sem, d10, d8, hrI, wr1, iq1, iq2, ir1, ir2, ii1, ii2, cL]
                · have d11 : U[538]?.getD undef = .pointer (some ⟨B + 3, q * 42 + r * 7 + i, none⟩) := slot_of (hprev 11 (by decide)) rfl
                  refine .inl ⟨want_of (d := 532) rfl rfl (by omega) (slot_of (hprev 5 (by decide)) rfl), ?_⟩
                  refine step_of_run (v := .bool false) (w' := _) ?_ ⟨rfl, _, rfl, (fun h => by cases h), rfl⟩
                  simp [execOp, go_sem, d11, hrI, wr1, iq1, iq2, ir1, ir2, ii1, ii2, cL]
                · have d12 : U[539]?.getD undef = .bool false := slot_of (hprev 12 (by decide)) rfl
                  refine .inl ⟨want_of (d := 532) rfl rfl (by omega) (slot_of (hprev 5 (by decide)) rfl), ?_⟩
                  refine step_of_run (v := .bool true) (w' := _) ?_ ⟨rfl, _, rfl, (fun h => by cases h), rfl⟩
                  simp [execOp, go_sem, d12, hrI, wr1, iq1, iq2, ir1, ir2, ii1, ii2, cL]
                · have d5 : U[532]?.getD undef = .bool true := slot_of (hprev 5 (by decide)) rfl
                  have d13 : U[540]?.getD undef = .bool true := slot_of (hprev 13 (by decide)) rfl
                  refine .inl ⟨want_none rfl, ?_⟩
                  refine step_of_run (v := .bool true) (w' := _) ?_ ⟨rfl, _, rfl, (fun h => by cases h), rfl⟩
                  simp [execOp, go_sem, d5, d13, hrI, wr1, iq1, iq2, ir1, ir2, ii1, ii2, cL]
                · have d14 : U[541]?.getD undef = .bool true := slot_of (hprev 14 (by decide)) rfl
                  refine .inl ⟨want_none rfl, ?_⟩
                  refine step_of_run (v := .bool true) (w' := _) ?_ ⟨rfl, _, rfl, (fun h => by cases h), rfl⟩
                  simp [execOp, go_sem, d14, hrI, wr1, iq1, iq2, ir1, ir2, ii1, ii2, cL]
                · have hx35 : U[35]?.getD undef = .func (.func 8) #[] #[.pointer (some ⟨B, 0, none⟩)] := kept_of hK 35 (by decide) (by assumption)
                  refine .inl ⟨want_of (d := 542) rfl rfl (by omega) (slot_of (hprev 15 (by decide)) rfl), ?_⟩
                  refine step_of_run (v := .func (.func 8) #[] #[.pointer (some ⟨B, 0, none⟩)]) (w' := _) ?_ ⟨rfl, _, rfl, (fun h => by cases h), rfl⟩
                  simp [execOp, go_sem, hx35, hrI, wr1, iq1, iq2, ir1, ir2, ii1, ii2, cL]
                · have hx71 : U[71]?.getD undef = .int .i64 q := kept_of hK 71 (by decide) (by assumption)
                  refine .inl ⟨want_of (d := 542) rfl rfl (by omega) (slot_of (hprev 15 (by decide)) rfl), ?_⟩
                  refine step_of_run (v := .int .i64 q) (w' := _) ?_ ⟨rfl, _, rfl, (fun h => by cases h), rfl⟩
                  simp [execOp, go_sem, hx71, hrI, wr1, iq1, iq2, ir1, ir2, ii1, ii2, cL]
                · have hx63 : U[63]?.getD undef = .int .i64 r := kept_of hK 63 (by decide) (by assumption)
                  refine .inl ⟨want_of (d := 542) rfl rfl (by omega) (slot_of (hprev 15 (by decide)) rfl), ?_⟩
                  refine step_of_run (v := .int .i64 r) (w' := _) ?_ ⟨rfl, _, rfl, (fun h => by cases h), rfl⟩
                  simp [execOp, go_sem, hx63, hrI, wr1, iq1, iq2, ir1, ir2, ii1, ii2, cL]
                · have d16 : U[543]?.getD undef = .func (.func 8) #[] #[.pointer (some ⟨B, 0, none⟩)] := slot_of (hprev 16 (by decide)) rfl
                  have d17 : U[544]?.getD undef = .int .i64 q := slot_of (hprev 17 (by decide)) rfl
                  have d18 : U[545]?.getD undef = .int .i64 r := slot_of (hprev 18 (by decide)) rfl
                  refine .inl ⟨want_of (d := 542) rfl rfl (by omega) (slot_of (hprev 15 (by decide)) rfl), ?_⟩
                  refine step_of_call (f := 8) (args := #[.int .i64 q, .int .i64 r, .pointer (some ⟨B, 0, none⟩)]) (w' := wr) ?_ (H82.out.mono ?_)
                  · simp [execOp, go_sem, d16, d17, d18]
                  · rintro e w9 ⟨rfl, hw9⟩
                    exact ⟨_, rfl, hw9, _, rfl, (fun h => by cases h), rfl⟩
                · have d19 : U[546]?.getD undef = .bool true := slot_of (hprev 19 (by decide)) rfl
                  refine .inl ⟨want_of (d := 542) rfl rfl (by omega) (slot_of (hprev 15 (by decide)) rfl), ?_⟩
                  refine step_of_run (v := .bool true) (w' := _) ?_ ⟨rfl, _, rfl, (fun h => by cases h), rfl⟩
                  simp [execOp, go_sem, d19, hrI, wr1, iq1, iq2, ir1, ir2, ii1, ii2, cL]
                · exact .inr ⟨skip_of (d := 547) rfl rfl (by omega) (slot_of (hprev 20 (by decide)) rfl), rfl⟩
                · exact .inr ⟨skip_of (d := 547) rfl rfl (by omega) (slot_of (hprev 20 (by decide)) rfl), rfl⟩
                · exact .inr ⟨skip_of (d := 547) rfl rfl (by omega) (slot_of (hprev 20 (by decide)) rfl), rfl⟩
                · exact .inr ⟨skip_of (d := 547) rfl rfl (by omega) (slot_of (hprev 20 (by decide)) rfl), rfl⟩
                · exact .inr ⟨skip_of (d := 547) rfl rfl (by omega) (slot_of (hprev 20 (by decide)) rfl), rfl⟩
                · exact .inr ⟨skip_of (d := 547) rfl rfl (by omega) (slot_of (hprev 20 (by decide)) rfl), rfl⟩
                · exact .inr ⟨skip_undef (d := 553) rfl rfl (by omega) (slot_of (hprev 26 (by decide)) rfl), rfl⟩
                · exact .inr ⟨skip_undef (d := 553) rfl rfl (by omega) (slot_of (hprev 26 (by decide)) rfl), rfl⟩
                · exact .inr ⟨skip_undef (d := 553) rfl rfl (by omega) (slot_of (hprev 26 (by decide)) rfl), rfl⟩
                · exact .inr ⟨skip_undef (d := 553) rfl rfl (by omega) (slot_of (hprev 26 (by decide)) rfl), rfl⟩
                · exact .inr ⟨skip_undef (d := 553) rfl rfl (by omega) (slot_of (hprev 26 (by decide)) rfl), rfl⟩
                · exact .inr ⟨skip_undef (d := 553) rfl rfl (by omega) (slot_of (hprev 26 (by decide)) rfl), rfl⟩
                · exact .inr ⟨skip_undef (d := 553) rfl rfl (by omega) (slot_of (hprev 26 (by decide)) rfl), rfl⟩
                · exact .inr ⟨skip_undef (d := 553) rfl rfl (by omega) (slot_of (hprev 26 (by decide)) rfl), rfl⟩
                · exact .inr ⟨skip_undef (d := 553) rfl rfl (by omega) (slot_of (hprev 26 (by decide)) rfl), rfl⟩
                · exact .inr ⟨skip_of (d := 547) rfl rfl (by omega) (slot_of (hprev 20 (by decide)) rfl), rfl⟩
                · have d20 : U[547]?.getD undef = .bool true := slot_of (hprev 20 (by decide)) rfl
                  have d36 : U[563]?.getD undef = undef := slot_of (hprev 36 (by decide)) rfl
                  refine .inl ⟨want_of (d := 542) rfl rfl (by omega) (slot_of (hprev 15 (by decide)) rfl), ?_⟩
                  refine step_of_run (v := .bool true) (w' := _) ?_ ⟨rfl, _, rfl, (fun h => by cases h), rfl⟩
                  simp [execOp, go_sem, d20, d36, hrI, wr1, iq1, iq2, ir1, ir2, ii1, ii2, cL]
                · have d15 : U[542]?.getD undef = .bool true := slot_of (hprev 15 (by decide)) rfl
                  have d37 : U[564]?.getD undef = .bool true := slot_of (hprev 37 (by decide)) rfl
                  refine .inl ⟨want_none rfl, ?_⟩
                  refine step_of_run (v := .bool true) (w' := _) ?_ ⟨rfl, _, rfl, (fun h => by cases h), rfl⟩
                  simp [execOp, go_sem, d15, d37, hrI, wr1, iq1, iq2, ir1, ir2, ii1, ii2, cL]
                · have d38 : U[565]?.getD undef = .bool true := slot_of (hprev 38 (by decide)) rfl
                  refine .inl ⟨want_none rfl, ?_⟩
                  refine step_of_run (v := .bool true) (w' := _) ?_ ⟨rfl, _, rfl, (fun h => by cases h), rfl⟩
                  simp [execOp, go_sem, d38, hrI, wr1, iq1, iq2, ir1, ir2, ii1, ii2, cL]
              · intro U hU hKU hall
                have b72 : U[72]?.getD undef = .bool true := slot_of (hall 39 (by decide)) rfl
                exact MERGE.out U ⟨hU, Keeps.trans HK.out (Kept.keeps (lo := 81) (hi := 734) (vs := [58, 71, 72]) hKU (hU.trans hT.symm) (by decide)), kept_of hKU 58 (by decide) s58, kept_of hKU 71 (by decide) s71, b72.trans (by rw [HOK.out, hokE]; simp [h1, h2, h3])⟩
            | false =>
              rw [h3] at h82
              have H82 := hidP h82
              clear h82
              by_cases h4 : cq = r
              · have hne : ((cq : Int) == (r : Int)) = true := by simp [h4]
                obtain ⟨sh, hsh⟩ : ∃ sh : Int, (rq : Int) / 2 ^ i1 = sh := ⟨_, rfl⟩
                obtain ⟨an, han⟩ : ∃ an : Int, Go.bits .and .u8 sh 1 = an := ⟨_, rfl⟩
                obtain ⟨bt, hbt⟩ : ∃ bt : Bool, (an == 1) = bt := ⟨_, rfl⟩
                have hbT : bitT rq i1 = bt := by unfold bitT; rw [hsh, han, hbt]
                have i1u : IntKind.u64.wrap (i1 : Int) = (i1 : Int) := by rw [IntKind.wrap_u64]; omega
                refine region_plain _ 735 hT [.func (.func 8) #[] #[.pointer (some ⟨B, 0, none⟩)], .int .i64 q, .int .i64 r, .int .i64 r1, .bool true, .bool true, .int .i64 q, .int .i64 r, .int .i64 i, .pointer (some ⟨B + 3, q * 42, none⟩), .pointer (some ⟨B + 3, q * 42 + r * 7, none⟩), .pointer (some ⟨B + 3, q * 42 + r * 7 + i, none⟩), .bool false, .bool true, .bool true, .bool true, .func (.func 8) #[] #[.pointer (some ⟨B, 0, none⟩)], .int .i64 q, .int .i64 r, .bool false, .bool false, .int .i64 q, .pointer (some ⟨B, q, none⟩), .int .i64 cq, .int .i64 r, .bool true, .bool true, .int .i64 q, .pointer (some ⟨B + 1, q, none⟩), .int .u8 rq, .int .i64 i, .int .i64 i1, .int .u64 i1, .int .u8 sh, .int .u8 an, .bool bt, .bool bt, .bool bt, .bool bt, .bool bt] wr (by decide) (by decide) ?_ ?_
                · intro i hi U hU hK hprev
                  have hi' : i < 40 := hi
                  rcases (by omega : i = 0 ∨ i = 1 ∨ i = 2 ∨ i = 3 ∨ i = 4 ∨ i = 5 ∨ i = 6 ∨ i = 7 ∨ i = 8 ∨ i = 9 ∨ i = 10 ∨ i = 11 ∨ i = 12 ∨ i = 13 ∨ i = 14 ∨ i = 15 ∨ i = 16 ∨ i = 17 ∨ i = 18 ∨ i = 19 ∨ i = 20 ∨ i = 21 ∨ i = 22 ∨ i = 23 ∨ i = 24 ∨ i = 25 ∨ i = 26 ∨ i = 27 ∨ i = 28 ∨ i = 29 ∨ i = 30 ∨ i = 31 ∨ i = 32 ∨ i = 33 ∨ i = 34 ∨ i = 35 ∨ i = 36 ∨ i = 37 ∨ i = 38 ∨ i = 39) with rfl | rfl | rfl | rfl | rfl | rfl | rfl | rfl | rfl | rfl | rfl | rfl | rfl | rfl | rfl | rfl | rfl | rfl | rfl | rfl | rfl | rfl | rfl | rfl | rfl | rfl | rfl | rfl | rfl | rfl | rfl | rfl | rfl | rfl | rfl | rfl | rfl | rfl | rfl | rfl
                  · have hx35 : U[35]?.getD undef = .func (.func 8) #[] #[.pointer (some ⟨B, 0, none⟩)] := kept_of hK 35 (by decide) (by assumption)
                    refine .inl ⟨want_none rfl, ?_⟩
                    refine step_of_run (v := .func (.func 8) #[] #[.pointer (some ⟨B, 0, none⟩)]) (w' := _) ?_ ⟨rfl, _, rfl, (fun h => by cases h), rfl⟩
                    simp [execOp, go_sem, hx35, hrI, wr1, iq1, iq2, ir1, ir2, ii1, ii2, cL, cC, hne, cRM, hii, i1b, i1u, hsh, han, hbt]
                  · have hx71 : U[71]?.getD undef = .int .i64 q := kept_of hK 71 (by decide) (by assumption)
                    refine .inl ⟨want_none rfl, ?_⟩
                    refine step_of_run (v := .int .i64 q) (w' := _) ?_ ⟨rfl, _, rfl, (fun h => by cases h), rfl⟩
                    simp [execOp, go_sem, hx71, hrI, wr1, iq1, iq2, ir1, ir2, ii1, ii2, cL, cC, hne, cRM, hii, i1b, i1u, hsh, han, hbt]
                  · have hx63 : U[63]?.getD undef = .int .i64 r := kept_of hK 63 (by decide) (by assumption)
                    refine .inl ⟨want_none rfl, ?_⟩
                    refine step_of_run (v := .int .i64 r) (w' := _) ?_ ⟨rfl, _, rfl, (fun h => by cases h), rfl⟩
                    simp [execOp, go_sem, hx63, hrI, wr1, iq1, iq2, ir1, ir2, ii1, ii2, cL, cC, hne, cRM, hii, i1b, i1u, hsh, han, hbt]
                  · have d2 : U[529]?.getD undef = .int .i64 r := slot_of (hprev 2 (by decide)) rfl
                    refine .inl ⟨want_none rfl, ?_⟩
                    refine step_of_run (v := .int .i64 r1) (w' := _) ?_ ⟨rfl, _, rfl, (fun h => by cases h), rfl⟩
                    simp [execOp, go_sem, d2, hrI, wr1, iq1, iq2, ir1, ir2, ii1, ii2, cL, cC, hne, cRM, hii, i1b, i1u, hsh, han, hbt]
                  · have d0 : U[527]?.getD undef = .func (.func 8) #[] #[.pointer (some ⟨B, 0, none⟩)] := slot_of (hprev 0 (by decide)) rfl
                    have d1 : U[528]?.getD undef = .int .i64 q := slot_of (hprev 1 (by decide)) rfl
                    have d3 : U[530]?.getD undef = .int .i64 r1 := slot_of (hprev 3 (by decide)) rfl
                    refine .inl ⟨want_none rfl, ?_⟩
                    refine step_of_call (f := 8) (args := #[.int .i64 q, .int .i64 r1, .pointer (some ⟨B, 0, none⟩)]) (w' := wr) ?_ (H81.out.mono ?_)
                    · simp [execOp, go_sem, d0, d1, d3]
                    · rintro e w9 ⟨rfl, hw9⟩
                      exact ⟨_, rfl, hw9, _, rfl, (fun h => by cases h), rfl⟩
                  · have d4 : U[531]?.getD undef = .bool true := slot_of (hprev 4 (by decide)) rfl
                    refine .inl ⟨want_none rfl, ?_⟩
                    refine step_of_run (v := .bool true) (w' := _) ?_ ⟨rfl, _, rfl, (fun h => by cases h), rfl⟩
                    simp [execOp, go_sem, d4, hrI, wr1, iq1, iq2, ir1, ir2, ii1, ii2, cL, cC, hne, cRM, hii, i1b, i1u, hsh, han, hbt]
                  · have hx71 : U[71]?.getD undef = .int .i64 q := kept_of hK 71 (by decide) (by assumption)
                    refine .inl ⟨want_of (d := 532) rfl rfl (by omega) (slot_of (hprev 5 (by decide)) rfl), ?_⟩
                    refine step_of_run (v := .int .i64 q) (w' := _) ?_ ⟨rfl, _, rfl, (fun h => by cases h), rfl⟩
                    simp [execOp, go_sem, hx71, hrI, wr1, iq1, iq2, ir1, ir2, ii1, ii2, cL, cC, hne, cRM, hii, i1b, i1u, hsh, han, hbt]
                  · have hx63 : U[63]?.getD undef = .int .i64 r := kept_of hK 63 (by decide) (by assumption)
                    refine .inl ⟨want_of (d := 532) rfl rfl (by omega) (slot_of (hprev 5 (by decide)) rfl), ?_⟩
                    refine step_of_run (v := .int .i64 r) (w' := _) ?_ ⟨rfl, _, rfl, (fun h => by cases h), rfl⟩
                    simp [execOp, go_sem, hx63, hrI, wr1, iq1, iq2, ir1, ir2, ii1, ii2, cL, cC, hne, cRM, hii, i1b, i1u, hsh, han, hbt]
                  · have hx65 : U[65]?.getD undef = .int .i64 i := kept_of hK 65 (by decide) (by assumption)
                    refine .inl ⟨want_of (d := 532) rfl rfl (by omega) (slot_of (hprev 5 (by decide)) rfl), ?_⟩
                    refine step_of_run (v := .int .i64 i) (w' := _) ?_ ⟨rfl, _, rfl, (fun h => by cases h), rfl⟩
                    simp [execOp, go_sem, hx65, hrI, wr1, iq1, iq2, ir1, ir2, ii1, ii2, cL, cC, hne, cRM, hii, i1b, i1u, hsh, han, hbt]
                  · have hx28 : U[28]?.getD undef = .pointer (some ⟨B + 3, 0, none⟩) := kept_of hK 28 (by decide) (by assumption)
                    have d6 : U[533]?.getD undef = .int .i64 q := slot_of (hprev 6 (by decide)) rfl
                    refine .inl ⟨want_of (d := 532) rfl rfl (by omega) (slot_of (hprev 5 (by decide)) rfl), ?_⟩
                    refine step_of_run (v := .pointer (some ⟨B + 3, q * 42, none⟩)) (w' := _) ?_ ⟨rfl, _, rfl, (fun h => by cases h), rfl⟩
                    simp [execOp, go_sem, hx28, d6, hrI, wr1, iq1, iq2, ir1, ir2, ii1, ii2, cL, cC, hne, cRM, hii, i1b, i1u, hsh, han, hbt]
                  · have d9 : U[536]?.getD undef = .pointer (some ⟨B + 3, q * 42, none⟩) := slot_of (hprev 9 (by decide)) rfl
                    have d7 : U[534]?.getD undef = .int .i64 r := slot_of (hprev 7 (by decide)) rfl
                    refine .inl ⟨want_of (d := 532) rfl rfl (by omega) (slot_of (hprev 5 (by decide)) rfl), ?_⟩
                    refine step_of_run (v := .pointer (some ⟨B + 3, q * 42 + r * 7, none⟩)) (w' := _) ?_ ⟨rfl, _, rfl, (fun h => by cases h), rfl⟩
                    simp [execOp, go_sem, d9, d7, hrI, wr1, iq1, iq2, ir1, ir2, ii1, ii2, cL, cC, hne, cRM, hii, i1b, i1u, hsh, han, hbt]
                  · have d10 : U[537]?.getD undef = .pointer (some ⟨B + 3, q * 42 + r * 7, none⟩) := slot_of (hprev 10 (by decide)) rfl
                    have d8 : U[535]?.getD undef = .int .i64 i := slot_of (hprev 8 (by decide)) rfl
                    refine .inl ⟨want_of (d := 532) rfl rfl (by omega) (slot_of (hprev 5 (by decide)) rfl), ?_⟩
                    refine step_of_run (v := .pointer (some ⟨B + 3, q * 42 + r * 7 + i, none⟩)) (w' := _) ?_ ⟨rfl, _, rfl, (fun h => by cases h), rfl⟩
                    simp [execOp, go_sem, d10, d8, hrI, wr1, iq1, iq2, ir1, ir2, ii1, ii2, cL, cC, hne, cRM, hii, i1b, i1u, hsh, han, hbt]
                  · have d11 : U[538]?.getD undef = .pointer (some ⟨B + 3, q * 42 + r * 7 + i, none⟩) := slot_of (hprev 11 (by decide)) rfl
                    refine .inl ⟨want_of (d := 532) rfl rfl (by omega) (slot_of (hprev 5 (by decide)) rfl), ?_⟩
                    refine step_of_run (v := .bool false) (w' := _) ?_ ⟨rfl, _, rfl, (fun h => by cases h), rfl⟩
                    simp [execOp, go_sem, d11, hrI, wr1, iq1, iq2, ir1, ir2, ii1, ii2, cL, cC, hne, cRM, hii, i1b, i1u, hsh, han, hbt]
                  · have d12 : U[539]?.getD undef = .bool false := slot_of (hprev 12 (by decide)) rfl
                    refine .inl ⟨want_of (d := 532) rfl rfl (by omega) (slot_of (hprev 5 (by decide)) rfl), ?_⟩
                    refine step_of_run (v := .bool true) (w' := _) ?_ ⟨rfl, _, rfl, (fun h => by cases h), rfl⟩
                    simp [execOp, go_sem, d12, hrI, wr1, iq1, iq2, ir1, ir2, ii1, ii2, cL, cC, hne, cRM, hii, i1b, i1u, hsh, han, hbt]
                  · have d5 : U[532]?.getD undef = .bool true := slot_of (hprev 5 (by decide)) rfl
                    have d13 : U[540]?.getD undef = .bool true := slot_of (hprev 13 (by decide)) rfl
                    refine .inl ⟨want_none rfl, ?_⟩
                    refine step_of_run (v := .bool true) (w' := _) ?_ ⟨rfl, _, rfl, (fun h => by cases h), rfl⟩
                    simp [execOp, go_sem, d5, d13, hrI, wr1, iq1, iq2, ir1, ir2, ii1, ii2, cL, cC, hne, cRM, hii, i1b, i1u, hsh, han, hbt]
                  · have d14 : U[541]?.getD undef = .bool true := slot_of (hprev 14 (by decide)) rfl
                    refine .inl ⟨want_none rfl, ?_⟩
                    refine step_of_run (v := .bool true) (w' := _) ?_ ⟨rfl, _, rfl, (fun h => by cases h), rfl⟩
                    simp [execOp, go_sem, d14, hrI, wr1, iq1, iq2, ir1, ir2, ii1, ii2, cL, cC, hne, cRM, hii, i1b, i1u, hsh, han, hbt]
                  · have hx35 : U[35]?.getD undef = .func (.func 8) #[] #[.pointer (some ⟨B, 0, none⟩)] := kept_of hK 35 (by decide) (by assumption)
                    refine .inl ⟨want_of (d := 542) rfl rfl (by omega) (slot_of (hprev 15 (by decide)) rfl), ?_⟩
                    refine step_of_run (v := .func (.func 8) #[] #[.pointer (some ⟨B, 0, none⟩)]) (w' := _) ?_ ⟨rfl, _, rfl, (fun h => by cases h), rfl⟩
                    simp [execOp, go_sem, hx35, hrI, wr1, iq1, iq2, ir1, ir2, ii1, ii2, cL, cC, hne, cRM, hii, i1b, i1u, hsh, han, hbt]
                  · have hx71 : U[71]?.getD undef = .int .i64 q := kept_of hK 71 (by decide) (by assumption)
                    refine .inl ⟨want_of (d := 542) rfl rfl (by omega) (slot_of (hprev 15 (by decide)) rfl), ?_⟩
                    refine step_of_run (v := .int .i64 q) (w' := _) ?_ ⟨rfl, _, rfl, (fun h => by cases h), rfl⟩
                    simp [execOp, go_sem, hx71, hrI, wr1, iq1, iq2, ir1, ir2, ii1, ii2, cL, cC, hne, cRM, hii, i1b, i1u, hsh, han, hbt]
                  · have hx63 : U[63]?.getD undef = .int .i64 r := kept_of hK 63 (by decide) (by assumption)
                    refine .inl ⟨want_of (d := 542) rfl rfl (by omega) (slot_of (hprev 15 (by decide)) rfl), ?_⟩
                    refine step_of_run (v := .int .i64 r) (w' := _) ?_ ⟨rfl, _, rfl, (fun h => by cases h), rfl⟩
                    simp [execOp, go_sem, hx63, hrI, wr1, iq1, iq2, ir1, ir2, ii1, ii2, cL, cC, hne, cRM, hii, i1b, i1u, hsh, han, hbt]
                  · have d16 : U[543]?.getD undef = .func (.func 8) #[] #[.pointer (some ⟨B, 0, none⟩)] := slot_of (hprev 16 (by decide)) rfl
                    have d17 : U[544]?.getD undef = .int .i64 q := slot_of (hprev 17 (by decide)) rfl
                    have d18 : U[545]?.getD undef = .int .i64 r := slot_of (hprev 18 (by decide)) rfl
                    refine .inl ⟨want_of (d := 542) rfl rfl (by omega) (slot_of (hprev 15 (by decide)) rfl), ?_⟩
                    refine step_of_call (f := 8) (args := #[.int .i64 q, .int .i64 r, .pointer (some ⟨B, 0, none⟩)]) (w' := wr) ?_ (H82.out.mono ?_)
                    · simp [execOp, go_sem, d16, d17, d18]
                    · rintro e w9 ⟨rfl, hw9⟩
                      exact ⟨_, rfl, hw9, _, rfl, (fun h => by cases h), rfl⟩
                  · have d19 : U[546]?.getD undef = .bool false := slot_of (hprev 19 (by decide)) rfl
                    refine .inl ⟨want_of (d := 542) rfl rfl (by omega) (slot_of (hprev 15 (by decide)) rfl), ?_⟩
                    refine step_of_run (v := .bool false) (w' := _) ?_ ⟨rfl, _, rfl, (fun h => by cases h), rfl⟩
                    simp [execOp, go_sem, d19, hrI, wr1, iq1, iq2, ir1, ir2, ii1, ii2, cL, cC, hne, cRM, hii, i1b, i1u, hsh, han, hbt]
                  · have hx71 : U[71]?.getD undef = .int .i64 q := kept_of hK 71 (by decide) (by assumption)
                    refine .inl ⟨want_of (d := 547) rfl rfl (by omega) (slot_of (hprev 20 (by decide)) rfl), ?_⟩
                    refine step_of_run (v := .int .i64 q) (w' := _) ?_ ⟨rfl, _, rfl, (fun h => by cases h), rfl⟩
                    simp [execOp, go_sem, hx71, hrI, wr1, iq1, iq2, ir1, ir2, ii1, ii2, cL, cC, hne, cRM, hii, i1b, i1u, hsh, han, hbt]
                  · have hx25 : U[25]?.getD undef = .pointer (some ⟨B, 0, none⟩) := kept_of hK 25 (by decide) (by assumption)
                    have d21 : U[548]?.getD undef = .int .i64 q := slot_of (hprev 21 (by decide)) rfl
                    refine .inl ⟨want_of (d := 547) rfl rfl (by omega) (slot_of (hprev 20 (by decide)) rfl), ?_⟩
                    refine step_of_run (v := .pointer (some ⟨B, q, none⟩)) (w' := _) ?_ ⟨rfl, _, rfl, (fun h => by cases h), rfl⟩
                    simp [execOp, go_sem, hx25, d21, hrI, wr1, iq1, iq2, ir1, ir2, ii1, ii2, cL, cC, hne, cRM, hii, i1b, i1u, hsh, han, hbt]
                  · have d22 : U[549]?.getD undef = .pointer (some ⟨B, q, none⟩) := slot_of (hprev 22 (by decide)) rfl
                    refine .inl ⟨want_of (d := 547) rfl rfl (by omega) (slot_of (hprev 20 (by decide)) rfl), ?_⟩
                    refine step_of_run (v := .int .i64 cq) (w' := _) ?_ ⟨rfl, _, rfl, (fun h => by cases h), rfl⟩
                    simp [execOp, go_sem, d22, hrI, wr1, iq1, iq2, ir1, ir2, ii1, ii2, cL, cC, hne, cRM, hii, i1b, i1u, hsh, han, hbt]
                  · have hx63 : U[63]?.getD undef = .int .i64 r := kept_of hK 63 (by decide) (by assumption)
                    refine .inl ⟨want_of (d := 547) rfl rfl (by omega) (slot_of (hprev 20 (by decide)) rfl), ?_⟩
                    refine step_of_run (v := .int .i64 r) (w' := _) ?_ ⟨rfl, _, rfl, (fun h => by cases h), rfl⟩
                    simp [execOp, go_sem, hx63, hrI, wr1, iq1, iq2, ir1, ir2, ii1, ii2, cL, cC, hne, cRM, hii, i1b, i1u, hsh, han, hbt]
                  · have d23 : U[550]?.getD undef = .int .i64 cq := slot_of (hprev 23 (by decide)) rfl
                    have d24 : U[551]?.getD undef = .int .i64 r := slot_of (hprev 24 (by decide)) rfl
                    refine .inl ⟨want_of (d := 547) rfl rfl (by omega) (slot_of (hprev 20 (by decide)) rfl), ?_⟩
                    refine step_of_run (v := .bool true) (w' := _) ?_ ⟨rfl, _, rfl, (fun h => by cases h), rfl⟩
                    simp [execOp, go_sem, d23, d24, hrI, wr1, iq1, iq2, ir1, ir2, ii1, ii2, cL, cC, hne, cRM, hii, i1b, i1u, hsh, han, hbt]
                  · have d25 : U[552]?.getD undef = .bool true := slot_of (hprev 25 (by decide)) rfl
                    refine .inl ⟨want_of (d := 547) rfl rfl (by omega) (slot_of (hprev 20 (by decide)) rfl), ?_⟩
                    refine step_of_run (v := .bool true) (w' := _) ?_ ⟨rfl, _, rfl, (fun h => by cases h), rfl⟩
                    simp [execOp, go_sem, d25, hrI, wr1, iq1, iq2, ir1, ir2, ii1, ii2, cL, cC, hne, cRM, hii, i1b, i1u, hsh, han, hbt]
                  · have hx71 : U[71]?.getD undef = .int .i64 q := kept_of hK 71 (by decide) (by assumption)
                    refine .inl ⟨want_of (d := 553) rfl rfl (by omega) (slot_of (hprev 26 (by decide)) rfl), ?_⟩
                    refine step_of_run (v := .int .i64 q) (w' := _) ?_ ⟨rfl, _, rfl, (fun h => by cases h), rfl⟩
                    simp [execOp, go_sem, hx71, hrI, wr1, iq1, iq2, ir1, ir2, ii1, ii2, cL, cC, hne, cRM, hii, i1b, i1u, hsh, han, hbt]
                  · have hx26 : U[26]?.getD undef = .pointer (some ⟨B + 1, 0, none⟩) := kept_of hK 26 (by decide) (by assumption)
                    have d27 : U[554]?.getD undef = .int .i64 q := slot_of (hprev 27 (by decide)) rfl
                    refine .inl ⟨want_of (d := 553) rfl rfl (by omega) (slot_of (hprev 26 (by decide)) rfl), ?_⟩
                    refine step_of_run (v := .pointer (some ⟨B + 1, q, none⟩)) (w' := _) ?_ ⟨rfl, _, rfl, (fun h => by cases h), rfl⟩
                    simp [execOp, go_sem, hx26, d27, hrI, wr1, iq1, iq2, ir1, ir2, ii1, ii2, cL, cC, hne, cRM, hii, i1b, i1u, hsh, han, hbt]
                  · have d28 : U[555]?.getD undef = .pointer (some ⟨B + 1, q, none⟩) := slot_of (hprev 28 (by decide)) rfl
                    refine .inl ⟨want_of (d := 553) rfl rfl (by omega) (slot_of (hprev 26 (by decide)) rfl), ?_⟩
                    refine step_of_run (v := .int .u8 rq) (w' := _) ?_ ⟨rfl, _, rfl, (fun h => by cases h), rfl⟩
                    simp [execOp, go_sem, d28, hrI, wr1, iq1, iq2, ir1, ir2, ii1, ii2, cL, cC, hne, cRM, hii, i1b, i1u, hsh, han, hbt]
                  · have hx65 : U[65]?.getD undef = .int .i64 i := kept_of hK 65 (by decide) (by assumption)
                    refine .inl ⟨want_of (d := 553) rfl rfl (by omega) (slot_of (hprev 26 (by decide)) rfl), ?_⟩
                    refine step_of_run (v := .int .i64 i) (w' := _) ?_ ⟨rfl, _, rfl, (fun h => by cases h), rfl⟩
                    simp [execOp, go_sem, hx65, hrI, wr1, iq1, iq2, ir1, ir2, ii1, ii2, cL, cC, hne, cRM, hii, i1b, i1u, hsh, han, hbt]
                  · have d30 : U[557]?.getD undef = .int .i64 i := slot_of (hprev 30 (by decide)) rfl
                    refine .inl ⟨want_of (d := 553) rfl rfl (by omega) (slot_of (hprev 26 (by decide)) rfl), ?_⟩
                    refine step_of_run (v := .int .i64 i1) (w' := _) ?_ ⟨rfl, _, rfl, (fun h => by cases h), rfl⟩
                    simp [execOp, go_sem, d30, hrI, wr1, iq1, iq2, ir1, ir2, ii1, ii2, cL, cC, hne, cRM, hii, i1b, i1u, hsh, han, hbt]
                  · have d31 : U[558]?.getD undef = .int .i64 i1 := slot_of (hprev 31 (by decide)) rfl
                    refine .inl ⟨want_of (d := 553) rfl rfl (by omega) (slot_of (hprev 26 (by decide)) rfl), ?_⟩
                    refine step_of_run (v := .int .u64 i1) (w' := _) ?_ ⟨rfl, _, rfl, (fun h => by cases h), rfl⟩
                    simp [execOp, go_sem, d31, hrI, wr1, iq1, iq2, ir1, ir2, ii1, ii2, cL, cC, hne, cRM, hii, i1b, i1u, hsh, han, hbt]
                  · have d29 : U[556]?.getD undef = .int .u8 rq := slot_of (hprev 29 (by decide)) rfl
                    have d32 : U[559]?.getD undef = .int .u64 i1 := slot_of (hprev 32 (by decide)) rfl
                    refine .inl ⟨want_of (d := 553) rfl rfl (by omega) (slot_of (hprev 26 (by decide)) rfl), ?_⟩
                    refine step_of_run (v := .int .u8 sh) (w' := _) ?_ ⟨rfl, _, rfl, (fun h => by cases h), rfl⟩
                    simp [execOp, go_sem, d29, d32, hrI, wr1, iq1, iq2, ir1, ir2, ii1, ii2, cL, cC, hne, cRM, hii, i1b, i1u, hsh, han, hbt]
                  · have d33 : U[560]?.getD undef = .int .u8 sh := slot_of (hprev 33 (by decide)) rfl
                    refine .inl ⟨want_of (d := 553) rfl rfl (by omega) (slot_of (hprev 26 (by decide)) rfl), ?_⟩
                    refine step_of_run (v := .int .u8 an) (w' := _) ?_ ⟨rfl, _, rfl, (fun h => by cases h), rfl⟩
                    simp [execOp, go_sem, d33, hrI, wr1, iq1, iq2, ir1, ir2, ii1, ii2, cL, cC, hne, cRM, hii, i1b, i1u, hsh, han, hbt]
                  · have d34 : U[561]?.getD undef = .int .u8 an := slot_of (hprev 34 (by decide)) rfl
                    refine .inl ⟨want_of (d := 553) rfl rfl (by omega) (slot_of (hprev 26 (by decide)) rfl), ?_⟩
                    refine step_of_run (v := .bool bt) (w' := _) ?_ ⟨rfl, _, rfl, (fun h => by cases h), rfl⟩
                    simp [execOp, go_sem, d34, hrI, wr1, iq1, iq2, ir1, ir2, ii1, ii2, cL, cC, hne, cRM, hii, i1b, i1u, hsh, han, hbt]
                  · have d26 : U[553]?.getD undef = .bool true := slot_of (hprev 26 (by decide)) rfl
                    have d35 : U[562]?.getD undef = .bool bt := slot_of (hprev 35 (by decide)) rfl
                    refine .inl ⟨want_of (d := 547) rfl rfl (by omega) (slot_of (hprev 20 (by decide)) rfl), ?_⟩
                    refine step_of_run (v := .bool bt) (w' := _) ?_ ⟨rfl, _, rfl, (fun h => by cases h), rfl⟩
                    simp [execOp, go_sem, d26, d35, hrI, wr1, iq1, iq2, ir1, ir2, ii1, ii2, cL, cC, hne, cRM, hii, i1b, i1u, hsh, han, hbt]
                  · have d20 : U[547]?.getD undef = .bool false := slot_of (hprev 20 (by decide)) rfl
                    have d36 : U[563]?.getD undef = .bool bt := slot_of (hprev 36 (by decide)) rfl
                    refine .inl ⟨want_of (d := 542) rfl rfl (by omega) (slot_of (hprev 15 (by decide)) rfl), ?_⟩
                    refine step_of_run (v := .bool bt) (w' := _) ?_ ⟨rfl, _, rfl, (fun h => by cases h), rfl⟩
                    simp [execOp, go_sem, d20, d36, hrI, wr1, iq1, iq2, ir1, ir2, ii1, ii2, cL, cC, hne, cRM, hii, i1b, i1u, hsh, han, hbt]
                  · have d15 : U[542]?.getD undef = .bool true := slot_of (hprev 15 (by decide)) rfl
                    have d37 : U[564]?.getD undef = .bool bt := slot_of (hprev 37 (by decide)) rfl
                    refine .inl ⟨want_none rfl, ?_⟩
                    refine step_of_run (v := .bool bt) (w' := _) ?_ ⟨rfl, _, rfl, (fun h => by cases h), rfl⟩
                    simp [execOp, go_sem, d15, d37, hrI, wr1, iq1, iq2, ir1, ir2, ii1, ii2, cL, cC, hne, cRM, hii, i1b, i1u, hsh, han, hbt]
                  · have d38 : U[565]?.getD undef = .bool bt := slot_of (hprev 38 (by decide)) rfl
                    refine .inl ⟨want_none rfl, ?_⟩
                    refine step_of_run (v := .bool bt) (w' := _) ?_ ⟨rfl, _, rfl, (fun h => by cases h), rfl⟩
                    simp [execOp, go_sem, d38, hrI, wr1, iq1, iq2, ir1, ir2, ii1, ii2, cL, cC, hne, cRM, hii, i1b, i1u, hsh, han, hbt]
                · intro U hU hKU hall
                  have b72 : U[72]?.getD undef = .bool bt := slot_of (hall 39 (by decide)) rfl
                  exact MERGE.out U ⟨hU, Keeps.trans HK.out (Kept.keeps (lo := 81) (hi := 734) (vs := [58, 71, 72]) hKU (hU.trans hT.symm) (by decide)), kept_of hKU 58 (by decide) s58, kept_of hKU 71 (by decide) s71, b72.trans (by rw [HOK.out, hokE]; simp [h1, h2, h3, h4, hbT])⟩
              · have hne : ((cq : Int) == (r : Int)) = false := by simp; omega
                refine region_plain _ 735 hT [.func (.func 8) #[] #[.pointer (some ⟨B, 0, none⟩)], .int .i64 q, .int .i64 r, .int .i64 r1, .bool true, .bool true, .int .i64 q, .int .i64 r, .int .i64 i, .pointer (some ⟨B + 3, q * 42, none⟩), .pointer (some ⟨B + 3, q * 42 + r * 7, none⟩), .pointer (some ⟨B + 3, q * 42 + r * 7 + i, none⟩), .bool false, .bool true, .bool true, .bool true, .func (.func 8) #[] #[.pointer (some ⟨B, 0, none⟩)], .int .i64 q, .int .i64 r, .bool false, .bool false, .int .i64 q, .pointer (some ⟨B, q, none⟩), .int .i64 cq, .int .i64 r, .bool false, .bool false, undef, undef, undef, undef, undef, undef, undef, undef, undef, .bool false, .bool false, .bool false, .bool false] wr (by decide) (by decide) ?_ ?_
                · intro i hi U hU hK hprev
                  have hi' : i < 40 := hi
                  rcases (by omega : i = 0 ∨ i = 1 ∨ i = 2 ∨ i = 3 ∨ i = 4 ∨ i = 5 ∨ i = 6 ∨ i = 7 ∨ i = 8 ∨ i = 9 ∨ i = 10 ∨ i = 11 ∨ i = 12 ∨ i = 13 ∨ i = 14 ∨ i = 15 ∨ i = 16 ∨ i = 17 ∨ i = 18 ∨ i = 19 ∨ i = 20 ∨ i = 21 ∨ i = 22 ∨ i = 23 ∨ i = 24 ∨ i = 25 ∨ i = 26 ∨ i = 27 ∨ i = 28 ∨ i = 29 ∨ i = 30 ∨ i = 31 ∨ i = 32 ∨ i = 33 ∨ i = 34 ∨ i = 35 ∨ i = 36 ∨ i = 37 ∨ i = 38 ∨ i = 39) with rfl | rfl | rfl | rfl | rfl | rfl | rfl | rfl | rfl | rfl | rfl | rfl | rfl | rfl | rfl | rfl | rfl | rfl | rfl | rfl | rfl | rfl | rfl | rfl | rfl | rfl | rfl | rfl | rfl | rfl | rfl | rfl | rfl | rfl | rfl | rfl | rfl | rfl | rfl | rfl
                  · have hx35 : U[35]?.getD undef = .func (.func 8) #[] #[.pointer (some ⟨B, 0, none⟩)] := kept_of hK 35 (by decide) (by assumption)
                    refine .inl ⟨want_none rfl, ?_⟩
                    refine step_of_run (v := .func (.func 8) #[] #[.pointer (some ⟨B, 0, none⟩)]) (w' := _) ?_ ⟨rfl, _, rfl, (fun h => by cases h), rfl⟩
                    simp [execOp, go_sem, hx35, hrI, wr1, iq1, iq2, ir1, ir2, ii1, ii2, cL, cC, hne]
                  · have hx71 : U[71]?.getD undef = .int .i64 q := kept_of hK 71 (by decide) (by assumption)
                    refine .inl ⟨want_none rfl, ?_⟩
                    refine step_of_run (v := .int .i64 q) (w' := _) ?_ ⟨rfl, _, rfl, (fun h => by cases h), rfl⟩
                    simp [execOp, go_sem, hx71, hrI, wr1, iq1, iq2, ir1, ir2, ii1, ii2, cL, cC, hne]
                  · have hx63 : U[63]?.getD undef = .int .i64 r := kept_of hK 63 (by decide) (by assumption)
                    refine .inl ⟨want_none rfl, ?_⟩
                    refine step_of_run (v := .int .i64 r) (w' := _) ?_ ⟨rfl, _, rfl, (fun h => by cases h), rfl⟩
                    simp [execOp, go_sem, hx63, hrI, wr1, iq1, iq2, ir1, ir2, ii1, ii2, cL, cC, hne]
                  · have d2 : U[529]?.getD undef = .int .i64 r := slot_of (hprev 2 (by decide)) rfl
                    refine .inl ⟨want_none rfl, ?_⟩
                    refine step_of_run (v := .int .i64 r1) (w' := _) ?_ ⟨rfl, _, rfl, (fun h => by cases h), rfl⟩
                    simp [execOp, go_sem, d2, hrI, wr1, iq1, iq2, ir1, ir2, ii1, ii2, cL, cC, hne]
                  · have d0 : U[527]?.getD undef = .func (.func 8) #[] #[.pointer (some ⟨B, 0, none⟩)] := slot_of (hprev 0 (by decide)) rfl
                    have d1 : U[528]?.getD undef = .int .i64 q := slot_of (hprev 1 (by decide)) rfl
                    have d3 : U[530]?.getD undef = .int .i64 r1 := slot_of (hprev 3 (by decide)) rfl
                    refine .inl ⟨want_none rfl, ?_⟩
                    refine step_of_call (f := 8) (args := #[.int .i64 q, .int .i64 r1, .pointer (some ⟨B, 0, none⟩)]) (w' := wr) ?_ (H81.out.mono ?_)
                    · simp [execOp, go_sem, d0, d1, d3]
                    · rintro e w9 ⟨rfl, hw9⟩
                      exact ⟨_, rfl, hw9, _, rfl, (fun h => by cases h), rfl⟩
                  · have d4 : U[531]?.getD undef = .bool true := slot_of (hprev 4 (by decide)) rfl
                    refine .inl ⟨want_none rfl, ?_⟩
                    refine step_of_run (v := .bool true) (w' := _) ?_ ⟨rfl, _, rfl, (fun h => by cases h), rfl⟩
                    simp [execOp, go_sem, d4, hrI, wr1, iq1, iq2, ir1, ir2, ii1, ii2, cL, cC, hne]
                  · have hx71 : U[71]?.getD undef = .int .i64 q := kept_of hK 71 (by decide) (by assumption)
                    refine .inl ⟨want_of (d := 532) rfl rfl (by omega) (slot_of (hprev 5 (by decide)) rfl), ?_⟩
                    refine step_of_run (v := .int .i64 q) (w' := _) ?_ ⟨rfl, _, rfl, (fun h => by cases h), rfl⟩
                    simp [execOp, go_sem, hx71, hrI, wr1, iq1, iq2, ir1, ir2, ii1, ii2, cL, cC, hne]
                  · have hx63 : U[63]?.getD undef = .int .i64 r := kept_of hK 63 (by decide) (by assumption)
                    refine .inl ⟨want_of (d := 532) rfl rfl (by omega) (slot_of (hprev 5 (by decide)) rfl), ?_⟩
                    refine step_of_run (v := .int .i64 r) (w' := _) ?_ ⟨rfl, _, rfl, (fun h => by cases h), rfl⟩
                    simp [execOp, go_sem, hx63, hrI, wr1, iq1, iq2, ir1, ir2, ii1, ii2, cL, cC, hne]
                  · have hx65 : U[65]?.getD undef = .int .i64 i := kept_of hK 65 (by decide) (by assumption)
                    refine .inl ⟨want_of (d := 532) rfl rfl (by omega) (slot_of (hprev 5 (by decide)) rfl), ?_⟩
                    refine step_of_run (v := .int .i64 i) (w' := _) ?_ ⟨rfl, _, rfl, (fun h => by cases h), rfl⟩
                    simp [execOp, go_sem, hx65, hrI, wr1, iq1, iq2, ir1, ir2, ii1, ii2, cL, cC, hne]
                  · have hx28 : U[28]?.getD undef = .pointer (some ⟨B + 3, 0, none⟩) := kept_of hK 28 (by decide) (by assumption)
                    have d6 : U[533]?.getD undef = .int .i64 q := slot_of (hprev 6 (by decide)) rfl
                    refine .inl ⟨want_of (d := 532) rfl rfl (by omega) (slot_of (hprev 5 (by decide)) rfl), ?_⟩
                    refine step_of_run (v := .pointer (some ⟨B + 3, q * 42, none⟩)) (w' := _) ?_ ⟨rfl, _, rfl, (fun h => by cases h), rfl⟩
                    simp [execOp, go_sem, hx28, d6, hrI, wr1, iq1, iq2, ir1, ir2, ii1, ii2, cL, cC, hne]
                  · have d9 : U[536]?.getD undef = .pointer (some ⟨B + 3, q * 42, none⟩) := slot_of (hprev 9 (by decide)) rfl
                    have d7 : U[534]?.getD undef = .int .i64 r := slot_of (hprev 7 (by decide)) rfl
                    refine .inl ⟨want_of (d := 532) rfl rfl (by omega) (slot_of (hprev 5 (by decide)) rfl), ?_⟩
                    refine step_of_run (v := .pointer (some ⟨B + 3, q * 42 + r * 7, none⟩)) (w' := _) ?_ ⟨rfl, _, rfl, (fun h => by cases h), rfl⟩
                    simp [execOp, go_sem, d9, d7, hrI, wr1, iq1, iq2, ir1, ir2, ii1, ii2, cL, cC, hne]
                  · have d10 : U[537]?.getD undef = .pointer (some ⟨B + 3, q * 42 + r * 7, none⟩) := slot_of (hprev 10 (by decide)) rfl
                    have d8 : U[535]?.getD undef = .int .i64 i := slot_of (hprev 8 (by decide)) rfl
                    refine .inl ⟨want_of (d := 532) rfl rfl (by omega) (slot_of (hprev 5 (by decide)) rfl), ?_⟩
                    refine step_of_run (v := .pointer (some ⟨B + 3, q * 42 + r * 7 + i, none⟩)) (w' := _) ?_ ⟨rfl, _, rfl, (fun h => by cases h), rfl⟩
                    simp [execOp, go_sem, d10, d8, hrI, wr1, iq1, iq2, ir1, ir2, ii1, ii2, cL, cC, hne]
                  · have d11 : U[538]?.getD undef = .pointer (some ⟨B + 3, q * 42 + r * 7 + i, none⟩) := slot_of (hprev 11 (by decide)) rfl
                    refine .inl ⟨want_of (d := 532) rfl rfl (by omega) (slot_of (hprev 5 (by decide)) rfl), ?_⟩
                    refine step_of_run (v := .bool false) (w' := _) ?_ ⟨rfl, _, rfl, (fun h => by cases h), rfl⟩
                    simp [execOp, go_sem, d11, hrI, wr1, iq1, iq2, ir1, ir2, ii1, ii2, cL, cC, hne]
                  · have d12 : U[539]?.getD undef = .bool false := slot_of (hprev 12 (by decide)) rfl
                    refine .inl ⟨want_of (d := 532) rfl rfl (by omega) (slot_of (hprev 5 (by decide)) rfl), ?_⟩
                    refine step_of_run (v := .bool true) (w' := _) ?_ ⟨rfl, _, rfl, (fun h => by cases h), rfl⟩
                    simp [execOp, go_sem, d12, hrI, wr1, iq1, iq2, ir1, ir2, ii1, ii2, cL, cC, hne]
                  · have d5 : U[532]?.getD undef = .bool true := slot_of (hprev 5 (by decide)) rfl
                    have d13 : U[540]?.getD undef = .bool true := slot_of (hprev 13 (by decide)) rfl
                    refine .inl ⟨want_none rfl, ?_⟩
                    refine step_of_run (v := .bool true) (w' := _) ?_ ⟨rfl, _, rfl, (fun h => by cases h), rfl⟩
                    simp [execOp, go_sem, d5, d13, hrI, wr1, iq1, iq2, ir1, ir2, ii1, ii2, cL, cC, hne]
                  · have d14 : U[541]?.getD undef = .bool true := slot_of (hprev 14 (by decide)) rfl
                    refine .inl ⟨want_none rfl, ?_⟩
                    refine step_of_run (v := .bool true) (w' := _) ?_ ⟨rfl, _, rfl, (fun h => by cases h), rfl⟩
                    simp [execOp, go_sem, d14, hrI, wr1, iq1, iq2, ir1, ir2, ii1, ii2, cL, cC, hne]
                  · have hx35 : U[35]?.getD undef = .func (.func 8) #[] #[.pointer (some ⟨B, 0, none⟩)] := kept_of hK 35 (by decide) (by assumption)
                    refine .inl ⟨want_of (d := 542) rfl rfl (by omega) (slot_of (hprev 15 (by decide)) rfl), ?_⟩
                    refine step_of_run (v := .func (.func 8) #[] #[.pointer (some ⟨B, 0, none⟩)]) (w' := _) ?_ ⟨rfl, _, rfl, (fun h => by cases h), rfl⟩
                    simp [execOp, go_sem, hx35, hrI, wr1, iq1, iq2, ir1, ir2, ii1, ii2, cL, cC, hne]
                  · have hx71 : U[71]?.getD undef = .int .i64 q := kept_of hK 71 (by decide) (by assumption)
                    refine .inl ⟨want_of (d := 542) rfl rfl (by omega) (slot_of (hprev 15 (by decide)) rfl), ?_⟩
                    refine step_of_run (v := .int .i64 q) (w' := _) ?_ ⟨rfl, _, rfl, (fun h => by cases h), rfl⟩
                    simp [execOp, go_sem, hx71, hrI, wr1, iq1, iq2, ir1, ir2, ii1, ii2, cL, cC, hne]
                  · have hx63 : U[63]?.getD undef = .int .i64 r := kept_of hK 63 (by decide) (by assumption)
                    refine .inl ⟨want_of (d := 542) rfl rfl (by omega) (slot_of (hprev 15 (by decide)) rfl), ?_⟩
                    refine step_of_run (v := .int .i64 r) (w' := _) ?_ ⟨rfl, _, rfl, (fun h => by cases h), rfl⟩
                    simp [execOp, go_sem, hx63, hrI, wr1, iq1, iq2, ir1, ir2, ii1, ii2, cL, cC, hne]
                  · have d16 : U[543]?.getD undef = .func (.func 8) #[] #[.pointer (some ⟨B, 0, none⟩)] := slot_of (hprev 16 (by decide)) rfl
                    have d17 : U[544]?.getD undef = .int .i64 q := slot_of (hprev 17 (by decide)) rfl
                    have d18 : U[545]?.getD undef = .int .i64 r := slot_of (hprev 18 (by decide)) rfl
                    refine .inl ⟨want_of (d := 542) rfl rfl (by omega) (slot_of (hprev 15 (by decide)) rfl), ?_⟩
                    refine step_of_call (f := 8) (args := #[.int .i64 q, .int .i64 r, .pointer (some ⟨B, 0, none⟩)]) (w' := wr) ?_ (H82.out.mono ?_)
                    · simp [execOp, go_sem, d16, d17, d18]
                    · rintro e w9 ⟨rfl, hw9⟩
                      exact ⟨_, rfl, hw9, _, rfl, (fun h => by cases h), rfl⟩
                  · have d19 : U[546]?.getD undef = .bool false := slot_of (hprev 19 (by decide)) rfl
                    refine .inl ⟨want_of (d := 542) rfl rfl (by omega) (slot_of (hprev 15 (by decide)) rfl), ?_⟩
                    refine step_of_run (v := .bool false) (w' := _) ?_ ⟨rfl, _, rfl, (fun h => by cases h), rfl⟩
                    simp [execOp, go_sem, d19, hrI, wr1, iq1, iq2, ir1, ir2, ii1, ii2, cL, cC, hne]
                  · have hx71 : U[71]?.getD undef = .int .i64 q := kept_of hK 71 (by decide) (by assumption)
                    refine .inl ⟨want_of (d := 547) rfl rfl (by omega) (slot_of (hprev 20 (by decide)) rfl), ?_⟩
                    refine step_of_run (v := .int .i64 q) (w' := _) ?_ ⟨rfl, _, rfl, (fun h => by cases h), rfl⟩
                    simp [execOp, go_sem, hx71, hrI, wr1, iq1, iq2, ir1, ir2, ii1, ii2, cL, cC, hne]
                  · have hx25 : U[25]?.getD undef = .pointer (some ⟨B, 0, none⟩) := kept_of hK 25 (by decide) (by assumption)
                    have d21 : U[548]?.getD undef = .int .i64 q := slot_of (hprev 21 (by decide)) rfl
                    refine .inl ⟨want_of (d := 547) rfl rfl (by omega) (slot_of (hprev 20 (by decide)) rfl), ?_⟩
                    refine step_of_run (v := .pointer (some ⟨B, q, none⟩)) (w' := _) ?_ ⟨rfl, _, rfl, (fun h => by cases h), rfl⟩
                    simp [execOp, go_sem, hx25, d21, hrI, wr1, iq1, iq2, ir1, ir2, ii1, ii2, cL, cC, hne]
                  · have d22 : U[549]?.getD undef = .pointer (some ⟨B, q, none⟩) := slot_of (hprev 22 (by decide)) rfl
                    refine .inl ⟨want_of (d := 547) rfl rfl (by omega) (slot_of (hprev 20 (by decide)) rfl), ?_⟩
                    refine step_of_run (v := .int .i64 cq) (w' := _) ?_ ⟨rfl, _, rfl, (fun h => by cases h), rfl⟩
                    simp [execOp, go_sem, d22, hrI, wr1, iq1, iq2, ir1, ir2, ii1, ii2, cL, cC, hne]
                  · have hx63 : U[63]?.getD undef = .int .i64 r := kept_of hK 63 (by decide) (by assumption)
                    refine .inl ⟨want_of (d := 547) rfl rfl (by omega) (slot_of (hprev 20 (by decide)) rfl), ?_⟩
                    refine step_of_run (v := .int .i64 r) (w' := _) ?_ ⟨rfl, _, rfl, (fun h => by cases h), rfl⟩
                    simp [execOp, go_sem, hx63, hrI, wr1, iq1, iq2, ir1, ir2, ii1, ii2, cL, cC, hne]
                  · have d23 : U[550]?.getD undef = .int .i64 cq := slot_of (hprev 23 (by decide)) rfl
                    have d24 : U[551]?.getD undef = .int .i64 r := slot_of (hprev 24 (by decide)) rfl
                    refine .inl ⟨want_of (d := 547) rfl rfl (by omega) (slot_of (hprev 20 (by decide)) rfl), ?_⟩
                    refine step_of_run (v := .bool false) (w' := _) ?_ ⟨rfl, _, rfl, (fun h => by cases h), rfl⟩
                    simp [execOp, go_sem, d23, d24, hrI, wr1, iq1, iq2, ir1, ir2, ii1, ii2, cL, cC, hne]
                  · have d25 : U[552]?.getD undef = .bool false := slot_of (hprev 25 (by decide)) rfl
                    refine .inl ⟨want_of (d := 547) rfl rfl (by omega) (slot_of (hprev 20 (by decide)) rfl), ?_⟩
                    refine step_of_run (v := .bool false) (w' := _) ?_ ⟨rfl, _, rfl, (fun h => by cases h), rfl⟩
                    simp [execOp, go_sem, d25, hrI, wr1, iq1, iq2, ir1, ir2, ii1, ii2, cL, cC, hne]
                  · exact .inr ⟨skip_of (d := 553) rfl rfl (by omega) (slot_of (hprev 26 (by decide)) rfl), rfl⟩
                  · exact .inr ⟨skip_of (d := 553) rfl rfl (by omega) (slot_of (hprev 26 (by decide)) rfl), rfl⟩
                  · exact .inr ⟨skip_of (d := 553) rfl rfl (by omega) (slot_of (hprev 26 (by decide)) rfl), rfl⟩
                  · exact .inr ⟨skip_of (d := 553) rfl rfl (by omega) (slot_of (hprev 26 (by decide)) rfl), rfl⟩
                  · exact .inr ⟨skip_of (d := 553) rfl rfl (by omega) (slot_of (hprev 26 (by decide)) rfl), rfl⟩
                  · exact .inr ⟨skip_of (d := 553) rfl rfl (by omega) (slot_of (hprev 26 (by decide)) rfl), rfl⟩
                  · exact .inr ⟨skip_of (d := 553) rfl rfl (by omega) (slot_of (hprev 26 (by decide)) rfl), rfl⟩
                  · exact .inr ⟨skip_of (d := 553) rfl rfl (by omega) (slot_of (hprev 26 (by decide)) rfl), rfl⟩
                  · exact .inr ⟨skip_of (d := 553) rfl rfl (by omega) (slot_of (hprev 26 (by decide)) rfl), rfl⟩
                  · have d26 : U[553]?.getD undef = .bool false := slot_of (hprev 26 (by decide)) rfl
                    have d35 : U[562]?.getD undef = undef := slot_of (hprev 35 (by decide)) rfl
                    refine .inl ⟨want_of (d := 547) rfl rfl (by omega) (slot_of (hprev 20 (by decide)) rfl), ?_⟩
                    refine step_of_run (v := .bool false) (w' := _) ?_ ⟨rfl, _, rfl, (fun h => by cases h), rfl⟩
                    simp [execOp, go_sem, d26, d35, hrI, wr1, iq1, iq2, ir1, ir2, ii1, ii2, cL, cC, hne]
                  · have d20 : U[547]?.getD undef = .bool false := slot_of (hprev 20 (by decide)) rfl
                    have d36 : U[563]?.getD undef = .bool false := slot_of (hprev 36 (by decide)) rfl
                    refine .inl ⟨want_of (d := 542) rfl rfl (by omega) (slot_of (hprev 15 (by decide)) rfl), ?_⟩
                    refine step_of_run (v := .bool false) (w' := _) ?_ ⟨rfl, _, rfl, (fun h => by cases h), rfl⟩
                    simp [execOp, go_sem, d20, d36, hrI, wr1, iq1, iq2, ir1, ir2, ii1, ii2, cL, cC, hne]
                  · have d15 : U[542]?.getD undef = .bool true := slot_of (hprev 15 (by decide)) rfl
                    have d37 : U[564]?.getD undef = .bool false := slot_of (hprev 37 (by decide)) rfl
                    refine .inl ⟨want_none rfl, ?_⟩
                    refine step_of_run (v := .bool false) (w' := _) ?_ ⟨rfl, _, rfl, (fun h => by cases h), rfl⟩
                    simp [execOp, go_sem, d15, d37, hrI, wr1, iq1, iq2, ir1, ir2, ii1, ii2, cL, cC, hne]
                  · have d38 : U[565]?.getD undef = .bool false := slot_of (hprev 38 (by decide)) rfl
                    refine .inl ⟨want_none rfl, ?_⟩
                    refine step_of_run (v := .bool false) (w' := _) ?_ ⟨rfl, _, rfl, (fun h => by cases h), rfl⟩
                    simp [execOp, go_sem, d38, hrI, wr1, iq1, iq2, ir1, ir2, ii1, ii2, cL, cC, hne]
                · intro U hU hKU hall
                  have b72 : U[72]?.getD undef = .bool false := slot_of (hall 39 (by decide)) rfl
                  exact MERGE.out U ⟨hU, Keeps.trans HK.out (Kept.keeps (lo := 81) (hi := 734) (vs := [58, 71, 72]) hKU (hU.trans hT.symm) (by decide)), kept_of hKU 58 (by decide) s58, kept_of hKU 71 (by decide) s71, b72.trans (by rw [HOK.out, hokE]; simp [h1, h2, h3, h4])⟩
      clear a23 a25 a26 a28 a35 a63 a65 a58 a71 HK hT
      clear s58 s71 s23 s25 s26 s28 s35 s63 s65
      clear T2
      rintro T2 ⟨hT, hK, u58, u71, u72⟩
      have a23 := hK.at' hT 23 (by decide) t23 (by decide) (by decide)
      have a25 := hK.at' hT 25 (by decide) t25 (by decide) (by decide)
      have a26 := hK.at' hT 26 (by decide) t26 (by decide) (by decide)
      have a28 := hK.at' hT 28 (by decide) t28 (by decide) (by decide)
      have a35 := hK.at' hT 35 (by decide) t35 (by decide) (by decide)
      have a63 := hK.at' hT 63 (by decide) t63 (by decide) (by decide)
      have a65 := hK.at' hT 65 (by decide) t65 (by decide) (by decide)
      have a58 : T2[58]'(by omega) = _ := at_of _ u58
      have a71 : T2[71]'(by omega) = _ := at_of _ u71
      have a72 : T2[72]'(by omega) = _ := at_of _ u72
      have HK := hidP hK
      clear hK u58 u71 u72
      refine HK133.out _ _ ?_
      clear cL cC cRM h81 h82
      have hsl : (okL p r i (q - 1)).length = q - 1 := by simp [okL]
      have hxl : (xs ++ okL p r i (q - 1)).length ≤ 90010 := by rw [List.length_append]; omega
      have e1 : q - 1 + 1 = q := by omega
      have hss : okL p r i (q + 1 - 1) = okL p r i (q - 1) ++ [if ok then (q : Int) * 100 + (r : Int) else -1] := by
        rw [show q + 1 - 1 = q - 1 + 1 by omega, okL_succ, e1, ← HOK.out]
      have HSS := hidP hss
      clear hss hsl
      go_upto_if 566 with fail
      refine wp_cond_at ok (by simp [Act.eval, hT]) (fun h => ?_) (fun h => ?_)
      · -- it reaches
        refine gen_frame (fun T2 => T2.size = 735 ∧ Keeps 81 734 [58, 71, 72] T T2 ∧ T2[58]?.getD undef = wv ∧ T2[71]?.getD undef = .int .i64 q) ⟨by simp [hT], ?_, by simp [hT, a23, a25, a26, a28, a35, a63, a65, a58, a71, a72], by simp [hT, a23, a25, a26, a28, a35, a63, a65, a58, a71, a72]⟩ ?_
        · repeat (refine Keeps.put ?_ _ _ (by first | exact .inr ⟨by decide, by decide⟩ | exact .inl (by decide)))
          exact HK.out
        clear a23 a25 a26 a28 a35 a63 a65 a58 a71 a72 HK hT
        clear T2
        rintro T2 ⟨hT, hK, u58, u71⟩
        have a23 := hK.at' hT 23 (by decide) t23 (by decide) (by decide)
        have a25 := hK.at' hT 25 (by decide) t25 (by decide) (by decide)
        have a26 := hK.at' hT 26 (by decide) t26 (by decide) (by decide)
        have a28 := hK.at' hT 28 (by decide) t28 (by decide) (by decide)
        have a35 := hK.at' hT 35 (by decide) t35 (by decide) (by decide)
        have a63 := hK.at' hT 63 (by decide) t63 (by decide) (by decide)
        have a65 := hK.at' hT 65 (by decide) t65 (by decide) (by decide)
        have a58 : T2[58]'(by omega) = _ := at_of _ u58
        have a71 : T2[71]'(by omega) = _ := at_of _ u71
        have HK := hidP hK
        clear hK u58 u71
        have hown := HW.out.1
        have hlenX : (xs ++ okL p r i (q - 1)).length ≤ 100000 := by omega
        obtain ⟨N, hN⟩ : ∃ N, N = (xs ++ okL p r i (q - 1)).length := ⟨_, rfl⟩
        rw [← hN] at hown hlenX
        have HN := hidP hN
        have HOWN := hidP hown
        have hsz := HW.out.2.2.size
        have hBw : B ≤ wr.heap.size := Nat.le_trans hB0 hsz
        clear hN hown
        go_wp2_with (at_builtin; refine wpList_append_lies _ rfl _ _ 29 rfl B 3 i0 (.int .i64 0) 1 8 Yba.underlying29 hi0 hz0 hz1 hz2 rfl (by decide) wv N (intsV (xs ++ okL p r i (q - 1))) (by simp [Act.eval, hT]) ?c1 ⟨wr.heap.size, 0, none⟩ 1 1 (intsV [(q : Int) * 100 + (r : Int)]) (by simp [Act.eval, hT]) rfl ?c2 (by simp [intsV, Value.oneCell']) (by decide) (by show _ ≤ 9223372036854775807; omega) (by omega) ?c3 (wr.heap.size + 1) ?c4 ?_)
        case c1 => exact HOWN.out.alloc _
        first | (case c2 => exact World.news_of_block (heap_alloc_new wr (.cells #[.int .i64 ((q : Int) * 100 + (r : Int))] 3))) | skip
        case c3 => first | omega | (simp; omega)
        first | (case c4 => simp) | skip
        intro gg cp w1 hown1 hgrow hat hlt
        have hwant : Want B CA w0 w1 (.slice (some ⟨gg, 0, none⟩) (N + 1) cp) (xs ++ okL p r i (q - 1) ++ [(q : Int) * 100 + (r : Int)]) := HW.out.app (ys := [(q : Int) * 100 + (r : Int)]) HN.out rfl hown1 hgrow (by rcases hat with h | h; exact .inl h; exact .inr (by omega))
        have HCW := hidP (Want.row HCA.out HW.out hCAlt (grown_own HW.out.1 (Only.refl.alloc _) (by rw [← HN.out]; exact hown1) hgrow))
        have HW' := hidP hwant
        have hsl : ∃ wv', wv' = Value.slice (some ⟨gg, 0, none⟩) (N + 1) cp := ⟨_, rfl⟩
        clear hown1 hgrow hat hlt hwant hsl
        go_wp2_with fail
        first | refine ⟨trivial, k - 1, by omega, ?_⟩ | refine ⟨k - 1, by omega, ?_⟩
        rw [HI.out]
        refine ⟨q + 1, by omega, by omega, ?_, by simp [hT], .slice (some ⟨gg, 0, none⟩) (N + 1) cp, by simp [hT], ?_, HCW.out⟩
        · repeat (refine Keeps.put ?_ _ _ (by first | exact .inr ⟨by decide, by decide⟩ | exact .inl (by decide)))
          exact HK.out
        · rw [HSS.out, h, ← List.append_assoc]
          exact HW'.out
      · -- it does not
        refine gen_frame (fun T2 => T2.size = 735 ∧ Keeps 81 734 [58, 71, 72] T T2 ∧ T2[58]?.getD undef = wv ∧ T2[71]?.getD undef = .int .i64 q) ⟨by simp [hT], ?_, by simp [hT, a23, a25, a26, a28, a35, a63, a65, a58, a71, a72], by simp [hT, a23, a25, a26, a28, a35, a63, a65, a58, a71, a72]⟩ ?_
        · repeat (refine Keeps.put ?_ _ _ (by first | exact .inr ⟨by decide, by decide⟩ | exact .inl (by decide)))
          exact HK.out
        clear a23 a25 a26 a28 a35 a63 a65 a58 a71 a72 HK hT
        clear T2
        rintro T2 ⟨hT, hK, u58, u71⟩
        have a23 := hK.at' hT 23 (by decide) t23 (by decide) (by decide)
        have a25 := hK.at' hT 25 (by decide) t25 (by decide) (by decide)
        have a26 := hK.at' hT 26 (by decide) t26 (by decide) (by decide)
        have a28 := hK.at' hT 28 (by decide) t28 (by decide) (by decide)
        have a35 := hK.at' hT 35 (by decide) t35 (by decide) (by decide)
        have a63 := hK.at' hT 63 (by decide) t63 (by decide) (by decide)
        have a65 := hK.at' hT 65 (by decide) t65 (by decide) (by decide)
        have a58 : T2[58]'(by omega) = _ := at_of _ u58
        have a71 : T2[71]'(by omega) = _ := at_of _ u71
        have HK := hidP hK
        clear hK u58 u71
        have hown := HW.out.1
        have hlenX : (xs ++ okL p r i (q - 1)).length ≤ 100000 := by omega
        obtain ⟨N, hN⟩ : ∃ N, N = (xs ++ okL p r i (q - 1)).length := ⟨_, rfl⟩
        rw [← hN] at hown hlenX
        have HN := hidP hN
        have HOWN := hidP hown
        have hsz := HW.out.2.2.size
        have hBw : B ≤ wr.heap.size := Nat.le_trans hB0 hsz
        clear hN hown
        go_wp2_with (at_builtin; refine wpList_append_lies _ rfl _ _ 29 rfl B 3 i0 (.int .i64 0) 1 8 Yba.underlying29 hi0 hz0 hz1 hz2 rfl (by decide) wv N (intsV (xs ++ okL p r i (q - 1))) (by simp [Act.eval, hT]) ?c1 ⟨wr.heap.size, 0, none⟩ 1 1 (intsV [-1]) (by simp [Act.eval, hT]) rfl ?c2 (by simp [intsV, Value.oneCell']) (by decide) (by show _ ≤ 9223372036854775807; omega) (by omega) ?c3 (wr.heap.size + 1) ?c4 ?_)
        case c1 => exact HOWN.out.alloc _
        first | (case c2 => exact World.news_of_block (heap_alloc_new wr (.cells #[.int .i64 (-1)] 3))) | skip
        case c3 => first | omega | (simp; omega)
        first | (case c4 => simp) | skip
        intro gg cp w1 hown1 hgrow hat hlt
        have hwant : Want B CA w0 w1 (.slice (some ⟨gg, 0, none⟩) (N + 1) cp) (xs ++ okL p r i (q - 1) ++ [-1]) := HW.out.app (ys := [-1]) HN.out rfl hown1 hgrow (by rcases hat with h | h; exact .inl h; exact .inr (by omega))
        have HCW := hidP (Want.row HCA.out HW.out hCAlt (grown_own HW.out.1 (Only.refl.alloc _) (by rw [← HN.out]; exact hown1) hgrow))
        have HW' := hidP hwant
        have hsl : ∃ wv', wv' = Value.slice (some ⟨gg, 0, none⟩) (N + 1) cp := ⟨_, rfl⟩
        clear hown1 hgrow hat hlt hwant hsl
        go_wp2_with fail
        first | refine ⟨trivial, k - 1, by omega, ?_⟩ | refine ⟨k - 1, by omega, ?_⟩
        rw [HI.out]
        refine ⟨q + 1, by omega, by omega, ?_, by simp [hT], .slice (some ⟨gg, 0, none⟩) (N + 1) cp, by simp [hT], ?_, HCW.out⟩
        · repeat (refine Keeps.put ?_ _ _ (by first | exact .inr ⟨by decide, by decide⟩ | exact .inl (by decide)))
          exact HK.out
        · rw [HSS.out, h, ← List.append_assoc]
          exact HW'.out
    · have hqn : q - 1 = p.n := by have := of_decide_eq_false h; omega
      clear h
      go_wp2_with fail
      have hw := HW.out
      rw [hqn] at hw
      refine HQ.out _ _ wv ?_ (by simp [hT, a58]) hw HCA.out
      repeat (refine Keeps.put ?_ _ _ (by first | exact .inr ⟨by decide, by decide⟩ | exact .inl (by decide)))
      exact HK.out
  · rw [HI.out]
    refine ⟨1, by omega, by omega, Keeps.refl, t71, v, t58, ?_, HW0.out.2⟩
    simpa [okL] using HW0.out.1
end Go.Proofs.Ybulkcawy
