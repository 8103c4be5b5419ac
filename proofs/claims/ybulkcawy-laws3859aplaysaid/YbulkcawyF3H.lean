/-
  LawS3859APlay: the log that it wants: a round's cores.
-/
import Derived.Test.YbulkcawyF3G
namespace Go.Proofs.Ybulkcawy
open Go.RowKit
set_option linter.unusedSimpArgs false
set_option linter.unusedVariables false
set_option maxRecDepth 100000
set_option maxHeartbeats 1000000

/-- The time of a kept core, 0 for none. -/
def caOf (cm : Nat → Option (Nat × Nat)) (x : Nat) : Nat := match cm x with | some t => t.2 | none => 0

theorem f3_30 (p : Inp) (hp : p.ok) (c : Cfg) (hcn : c.n = p.n) (hcr : c.cr = upTo p.n p.crA) (B CA SB : Nat) (evv : Value) (w0 : World) (he : WEnv p B CA SB evv w0) (hB0 : B ≤ w0.heap.size) (r : Nat) (hr1 : 1 ≤ r) (hr : r ≤ 5) (y : Nat) (hy : y ≤ 900) (cm : Nat → Option (Nat × Nat)) (xs : List Int) (hxs : xs.length ≤ 80000) (v : Value) (w : World) (hw : Want B CA w0 w v xs) (hca : Row w CA 78 36 (fun x => .int .i64 (caOf cm x))) (T : Array Value) (Q : Exit → Act → World → Prop) (hT0 : T.size = 735) (t23 : T[23]?.getD undef = .int .i64 p.n) (t35 : T[35]?.getD undef = .func (.func 8) #[] #[.pointer (some ⟨B, 0, none⟩)]) (t49 : T[49]?.getD undef = .pointer (some ⟨SB, 0, none⟩)) (t59 : T[59]?.getD undef = .pointer (some ⟨CA, 0, none⟩)) (t63 : T[63]?.getD undef = .int .i64 r) (t58 : T[58]?.getD undef = v) (t61 : T[61]?.getD undef = .int .i64 y) (t62 : T[62]?.getD undef = .bool false) (t73 : T[73]?.getD undef = .int .i64 1)
    (hQ : ∀ T' w' v', Keeps 81 734 [58, 61, 62, 73] T T' → T'[58]?.getD undef = v' → T'[61]?.getD undef = .int .i64 (y + cntC c.cr r ((stopK c.cr r y p.stopA p.n).getD p.n) : Nat) → T'[62]?.getD undef = .bool (stopK c.cr r y p.stopA p.n).isSome → Want B CA w0 w' v' (xs ++ coresL c.cr (fun _ => r) r ((stopK c.cr r y p.stopA p.n).getD p.n)) → Row w' CA 78 36 (fun x => .int .i64 (caOf (coreU c (fun _ => r) r ((stopK c.cr r y p.stopA p.n).getD p.n) cm) x)) → Q .normal ⟨T', []⟩ w') : (blkOf Yba.f3 30).wp Yba.prog Q ⟨T, []⟩ w := by
  conv in (blkOf Yba.f3 30) => whnf
  refine wp_block ?_
  have HQ := hidP hQ
  have HE := hidP he
  have HW0 := hidP (And.intro hw hca)
  have hn6 := hp.n6
  have HCR := hidP hcr
  have HCNN := hidP hcn
  obtain ⟨mc, hmc⟩ := he.CA
  have hCAlt := hmc.lt
  obtain ⟨jm, hjm⟩ : ∃ jm, jm = (r - 1) * p.n := ⟨_, rfl⟩
  have hjI : ((r : Int) - 1) * (p.n : Int) = (jm : Int) := by
    rw [hjm]
    push_cast [hr1]
    rfl
  have hjb : jm ≤ 4 * 6 := by rw [hjm]; exact Nat.mul_le_mul (by omega) (by omega)
  have HJM := hidP hjm
  obtain ⟨s, hs⟩ : ∃ s, s = p.stopA := ⟨_, rfl⟩
  have HS := hidP hs
  clear hQ hp he hw hca hmc hcr hcn hjm hs
  obtain ⟨i0, hi0, hz0, hz1, hz2⟩ := info_parts info3'
  obtain ⟨I, hI⟩ : ∃ I : Nat → Array Value → World → Prop, I = (fun k T2 wr => ∃ q, 1 ≤ q ∧ q + k = p.n + 1 ∧ Keeps 81 734 [58, 61, 62, 73] T T2 ∧ T2[61]?.getD undef = .int .i64 (y + cntC c.cr r (q - 1) : Nat) ∧ T2[62]?.getD undef = .bool false ∧ T2[73]?.getD undef = .int .i64 q ∧ stopK c.cr r y s (q - 1) = none ∧ ∃ wv, T2[58]?.getD undef = wv ∧ Want B CA w0 wr wv (xs ++ coresL c.cr (fun _ => r) r (q - 1)) ∧ Row wr CA 78 36 (fun x => .int .i64 (caOf (coreU c (fun _ => r) r (q - 1) cm) x))) := ⟨_, rfl⟩
  have HI := hidP hI
  clear hI
  refine wp_loop_n I ?_ p.n _ _ ?_
  · intro k T2 wr hIk
    rw [HI.out] at hIk
    obtain ⟨q, hq1, hqk, hK, u61, u62, u73, hno, wv, u58, hw, hca⟩ := hIk
    have hT : T2.size = 735 := hK.1.trans hT0
    have a23 := hK.at' hT 23 (by decide) t23 (by decide) (by decide)
    have a35 := hK.at' hT 35 (by decide) t35 (by decide) (by decide)
    have a49 := hK.at' hT 49 (by decide) t49 (by decide) (by decide)
    have a59 := hK.at' hT 59 (by decide) t59 (by decide) (by decide)
    have a63 := hK.at' hT 63 (by decide) t63 (by decide) (by decide)
    have a58 : T2[58]'(by omega) = _ := at_of _ u58
    have a61 : T2[61]'(by omega) = _ := at_of _ u61
    have a62 : T2[62]'(by omega) = _ := at_of _ u62
    have a73 : T2[73]'(by omega) = _ := at_of _ u73
    have HK := hidP hK
    clear hK u58 u61 u62 u73
    have HW := hidP hw
    have HCA := hidP hca
    have HNO := hidP hno
    have HER := hidP (HE.out.only hw.2.2 ⟨_, hca⟩)
    clear hw hca hno
    go_upto_if 580 with fail
    refine wp_cond_at (decide (q ≤ p.n)) (by simp [Act.eval, hT]) (fun h => ?_) (fun h => ?_)
    · have hqn : q ≤ p.n := of_decide_eq_true h
      clear h
      refine gen_frame (fun T2 => T2.size = 735 ∧ Keeps 81 734 [58, 61, 62, 73] T T2 ∧ T2[58]?.getD undef = wv ∧ T2[61]?.getD undef = .int .i64 (y + cntC c.cr r (q - 1) : Nat) ∧ T2[62]?.getD undef = .bool false ∧ T2[73]?.getD undef = .int .i64 q) ⟨by simp [hT], ?_, by simp [hT, a23, a35, a49, a59, a63, a58, a61, a62, a73], by simp [hT, a23, a35, a49, a59, a63, a58, a61, a62, a73], by simp [hT, a23, a35, a49, a59, a63, a58, a61, a62, a73], by simp [hT, a23, a35, a49, a59, a63, a58, a61, a62, a73]⟩ ?_
      · repeat (refine Keeps.put ?_ _ _ (by first | exact .inr ⟨by decide, by decide⟩ | exact .inl (by decide)))
        exact HK.out
      clear a23 a35 a49 a59 a63 a58 a61 a62 a73 HK hT
      clear T2
      rintro T2 ⟨hT, hK, u58, u61, u62, u73⟩
      have a23 := hK.at' hT 23 (by decide) t23 (by decide) (by decide)
      have a35 := hK.at' hT 35 (by decide) t35 (by decide) (by decide)
      have a49 := hK.at' hT 49 (by decide) t49 (by decide) (by decide)
      have a59 := hK.at' hT 59 (by decide) t59 (by decide) (by decide)
      have a63 := hK.at' hT 63 (by decide) t63 (by decide) (by decide)
      have a58 : T2[58]'(by omega) = _ := at_of _ u58
      have a61 : T2[61]'(by omega) = _ := at_of _ u61
      have a62 : T2[62]'(by omega) = _ := at_of _ u62
      have a73 : T2[73]'(by omega) = _ := at_of _ u73
      have HK := hidP hK
      clear hK u58 u61 u62 u73
      obtain ⟨Dc, hD⟩ : ∃ Dc, Dc = compl c.cr q r := ⟨_, rfl⟩
      have h8 := ownCompletes B 23 q r (upTo p.n p.crA) wr HER.out.C (by omega)
      rw [← HCR.out, ← hD] at h8
      have H8 := hidP h8
      have HD := hidP hD
      clear h8 hD
      go_upto_if 587 with (go_at_call 8; refine H8.out.mono ?_; rintro e w2 ⟨rfl, hw2⟩; have hw3 := hw2.symm; clear hw2; subst hw3)
      have hxl := coresL_len c.cr (fun _ => r) r (q - 1)
      have hxl2 : (xs ++ coresL c.cr (fun _ => r) r (q - 1)).length ≤ 85000 := by rw [List.length_append]; omega
      have e1 : q - 1 + 1 = q := by omega
      have e2 : q + 1 - 1 = q - 1 + 1 := by omega
      have hcn : cntC c.cr r (q - 1 + 1) = cntC c.cr r (q - 1) + (if Dc then 1 else 0) := by rw [cntC, e1, HD.out]
      have hcl : coresL c.cr (fun _ => r) r (q - 1 + 1) = coresL c.cr (fun _ => r) r (q - 1) ++ (if Dc then [-6, (q : Int), -7, (q : Int), (r : Int), (r : Int)] else []) := by rw [coresL_succ, e1, HD.out]
      have hst : stopK c.cr r y s (q - 1 + 1) = if Dc = true ∧ y + cntC c.cr r (q - 1 + 1) = s then some q else none := by rw [stopK, HNO.out, e1, HD.out]
      have hcnl := cntC_le c.cr r (q - 1)
      have HCN := hidP hcn
      have HCL := hidP hcl
      have HST := hidP hst
      clear hcn hcl hst
      obtain ⟨yc, hyc⟩ : ∃ yc, yc = y + cntC c.cr r (q - 1) := ⟨_, rfl⟩
      rw [← hyc] at a61
      have hycb : yc ≤ 1000 := by omega
      have HYC := hidP hyc
      clear hyc
      refine wp_cond_at (!Dc) (by simp [Act.eval, hT]) (fun h => ?_) (fun h => ?_)
      · have hd : Dc = false := by simpa using h
        clear h
        refine gen_frame (fun T2 => T2.size = 735 ∧ Keeps 81 734 [58, 61, 62, 73] T T2 ∧ T2[58]?.getD undef = wv ∧ T2[61]?.getD undef = .int .i64 yc ∧ T2[62]?.getD undef = .bool false ∧ T2[73]?.getD undef = .int .i64 q) ⟨by simp [hT], ?_, by simp [hT, a23, a35, a49, a59, a63, a58, a61, a62, a73], by simp [hT, a23, a35, a49, a59, a63, a58, a61, a62, a73], by simp [hT, a23, a35, a49, a59, a63, a58, a61, a62, a73], by simp [hT, a23, a35, a49, a59, a63, a58, a61, a62, a73]⟩ ?_
        · repeat (refine Keeps.put ?_ _ _ (by first | exact .inr ⟨by decide, by decide⟩ | exact .inl (by decide)))
          exact HK.out
        clear a23 a35 a49 a59 a63 a58 a61 a62 a73 HK hT
        clear T2
        rintro T2 ⟨hT, hK, u58, u61, u62, u73⟩
        have a23 := hK.at' hT 23 (by decide) t23 (by decide) (by decide)
        have a35 := hK.at' hT 35 (by decide) t35 (by decide) (by decide)
        have a49 := hK.at' hT 49 (by decide) t49 (by decide) (by decide)
        have a59 := hK.at' hT 59 (by decide) t59 (by decide) (by decide)
        have a63 := hK.at' hT 63 (by decide) t63 (by decide) (by decide)
        have a58 : T2[58]'(by omega) = _ := at_of _ u58
        have a61 : T2[61]'(by omega) = _ := at_of _ u61
        have a62 : T2[62]'(by omega) = _ := at_of _ u62
        have a73 : T2[73]'(by omega) = _ := at_of _ u73
        have HK := hidP hK
        clear hK u58 u61 u62 u73
        go_wp2_with fail
        first | refine ⟨trivial, k - 1, by omega, ?_⟩ | refine ⟨k - 1, by omega, ?_⟩
        rw [HI.out]
        refine ⟨q + 1, by omega, by omega, ?_, ?_, by simp [hT, a62], by simp [hT], ?_, wv, by simp [hT, a58], ?_, ?_⟩
        · repeat (refine Keeps.put ?_ _ _ (by first | exact .inr ⟨by decide, by decide⟩ | exact .inl (by decide)))
          exact HK.out
        · have ec : cntC c.cr r (q + 1 - 1) = cntC c.cr r (q - 1) := by rw [e2, HCN.out, hd]; rfl
          rw [ec, ← HYC.out]
          simp [hT, a61]
        · rw [e2, HST.out, hd]
          simp
        · rw [e2, HCL.out, hd]
          simpa using HW.out
        · rw [coreU_skip c (fun _ => r) r q cm hq1 (by rw [← HD.out]; exact hd)]
          exact HCA.out
      · have hd : Dc = true := by simpa using h
        clear h
        refine gen_frame (fun T2 => T2.size = 735 ∧ Keeps 81 734 [58, 61, 62, 73] T T2 ∧ T2[58]?.getD undef = wv ∧ T2[61]?.getD undef = .int .i64 yc ∧ T2[62]?.getD undef = .bool false ∧ T2[73]?.getD undef = .int .i64 q) ⟨by simp [hT], ?_, by simp [hT, a23, a35, a49, a59, a63, a58, a61, a62, a73], by simp [hT, a23, a35, a49, a59, a63, a58, a61, a62, a73], by simp [hT, a23, a35, a49, a59, a63, a58, a61, a62, a73], by simp [hT, a23, a35, a49, a59, a63, a58, a61, a62, a73]⟩ ?_
        · repeat (refine Keeps.put ?_ _ _ (by first | exact .inr ⟨by decide, by decide⟩ | exact .inl (by decide)))
          exact HK.out
        clear a23 a35 a49 a59 a63 a58 a61 a62 a73 HK hT
        clear T2
        rintro T2 ⟨hT, hK, u58, u61, u62, u73⟩
        have a23 := hK.at' hT 23 (by decide) t23 (by decide) (by decide)
        have a35 := hK.at' hT 35 (by decide) t35 (by decide) (by decide)
        have a49 := hK.at' hT 49 (by decide) t49 (by decide) (by decide)
        have a59 := hK.at' hT 59 (by decide) t59 (by decide) (by decide)
        have a63 := hK.at' hT 63 (by decide) t63 (by decide) (by decide)
        have a58 : T2[58]'(by omega) = _ := at_of _ u58
        have a61 : T2[61]'(by omega) = _ := at_of _ u61
        have a62 : T2[62]'(by omega) = _ := at_of _ u62
        have a73 : T2[73]'(by omega) = _ := at_of _ u73
        have HK := hidP hK
        clear hK u58 u61 u62 u73
        obtain ⟨x, hx⟩ : ∃ x, x = jm + (q - 1) := ⟨_, rfl⟩
        have hxI : (jm : Int) + (q : Int) - 1 = (x : Int) := by omega
        have ix1 : (0 : Int) ≤ (x : Int) := by omega
        have ix2 : (x : Int) < 36 := by omega
        have HX := hidP hx
        clear hx
        obtain ⟨XL, hXL⟩ : ∃ XL : List Int, XL = xs ++ coresL c.cr (fun _ => r) r (q - 1) := ⟨_, rfl⟩
        have hwx := HW.out
        rw [← hXL] at hwx
        have hown := hwx.1
        have hlenX : XL.length ≤ 100000 := by rw [hXL]; omega
        obtain ⟨N, hN⟩ : ∃ N, N = XL.length := ⟨_, rfl⟩
        rw [← hN] at hown hlenX
        have HN := hidP hN
        have HXL := hidP hXL
        have HWX := hidP hwx
        have HOWN := hidP hown
        have hsz := HW.out.2.2.size
        have hBw : B ≤ wr.heap.size := Nat.le_trans hB0 hsz
        clear hN hown hXL hwx
        go_wp2_with (at_builtin; refine wpList_append_lies _ rfl _ _ 29 rfl B 3 i0 (.int .i64 0) 1 8 Yba.underlying29 hi0 hz0 hz1 hz2 rfl (by decide) wv N (intsV XL) (by simp [Act.eval, hT]) (HOWN.out.alloc _) ⟨wr.heap.size, 0, none⟩ 6 6 (intsV [-6, (q : Int), -7, (q : Int), (r : Int), (r : Int)]) (by simp [Act.eval, hT]) rfl (by exact World.news_of_block (heap_alloc_new wr (.cells #[.int .i64 (-6), .int .i64 q, .int .i64 (-7), .int .i64 q, .int .i64 r, .int .i64 r] 3))) (by simp [intsV, Value.oneCell']) (by decide) (by show _ ≤ 9223372036854775807; omega) (by omega) (by first | omega | (simp; omega)) (wr.heap.size + 1) (by simp) ?_)
        intro gg cp w1 hown1 hgrow hat hlt
        have hwant : Want B CA w0 w1 (.slice (some ⟨gg, 0, none⟩) (N + 6) cp) (xs ++ coresL c.cr (fun _ => r) r (q - 1) ++ [-6, (q : Int), -7, (q : Int), (r : Int), (r : Int)]) := by
          have := HWX.out.app (ys := [-6, (q : Int), -7, (q : Int), (r : Int), (r : Int)]) HN.out rfl hown1 hgrow (by rcases hat with h | h; exact .inl h; exact .inr (by omega))
          rwa [HXL.out] at this
        have HCW := hidP (Want.row HCA.out HWX.out hCAlt (grown_own HWX.out.1 (Only.refl.alloc _) (by rw [← HN.out]; exact hown1) hgrow))
        have HW' := hidP hwant
        clear hown1 hgrow hat hlt hwant
        have hER1 := HE.out.only HW'.out.2.2 ⟨_, HCW.out⟩
        have cA := HCW.out.cell x (by omega)
        have fA := HCW.out.frozen x
        obtain ⟨w2, hw2⟩ : ∃ w2, w1.setCell ⟨CA, x, none⟩ (.int .i64 r) = w2 := ⟨_, rfl⟩
        have ho2 : Only (fun b => b = CA) w1 w2 := by rw [← hw2]; exact Only.setCell (S := fun b => b = CA) Only.refl (p := ⟨CA, x, none⟩) (fun _ => rfl) _
        have hca2 : Row w2 CA 78 36 (fun z => if z = x then .int .i64 r else .int .i64 (caOf (coreU c (fun _ => r) r (q - 1) cm) z)) := by rw [← hw2]; exact HCW.out.set x _
        have hwn2 : Want B CA w0 w2 (.slice (some ⟨gg, 0, none⟩) (N + 6) cp) (xs ++ coresL c.cr (fun _ => r) r (q - 1) ++ [-6, (q : Int), -7, (q : Int), (r : Int), (r : Int)]) := by
          refine ⟨own_of_block HW'.out.1 fun b hb => ho2.block b (own_block_lt HW'.out.1 hb).2 (fun e => ?_), HW'.out.2.1, HW'.out.2.2.trans ho2⟩
          have := HW'.out.2.1 b hb
          omega
        have cS2 : w2.cell? ⟨SB, 0, none⟩ = some (.int .i64 s) := by
          rw [HS.out]
          exact (hER1.only (w := w2) ho2 ⟨_, hca2⟩).S.cell 0 (by omega)
        have hnew : ∀ z, caOf (coreU c (fun _ => r) r (q - 1 + 1) cm) z = if z = x then r else caOf (coreU c (fun _ => r) r (q - 1) cm) z := fun z => by
          have h1 := coreU_new c (fun _ => r) r q cm hq1 (by rw [← HD.out]; exact hd) z
          rw [e2, HCNN.out, ← HJM.out, ← HX.out] at h1
          unfold caOf
          rw [h1]
          by_cases ez : z = x
          · rw [if_pos ez, if_pos ez]
          · rw [if_neg ez, if_neg ez]
        have hca3 : Row w2 CA 78 36 (fun z => .int .i64 (caOf (coreU c (fun _ => r) r (q - 1 + 1) cm) z)) := hca2.ext fun z hz => by
          rw [hnew z]
          by_cases ez : z = x
          · rw [if_pos ez, if_pos ez]
          · rw [if_neg ez, if_neg ez]
        have HCA3 := hidP hca3
        have HWN2 := hidP hwn2
        clear hER1 ho2 hca2 hwn2 hca3 hnew
        go_upto_if 608 with fail
        have hcntq : y + cntC c.cr r (q - 1 + 1) = yc + 1 := by rw [HCN.out, hd, HYC.out]; simp; omega
        by_cases hstop : yc + 1 = s
        · have hsI : (yc : Int) + 1 = (s : Int) := by omega
          refine wp_cond_at true (by simp [Act.eval, hT, hsI]) (fun _ => ?_) (fun h => by cases h)
          have hsk : stopK c.cr r y p.stopA p.n = some q := by
            rw [← HS.out]
            refine stopK_mono c.cr r y s (k := q) ?_ p.n hqn
            have := HST.out
            rw [hcntq, if_pos ⟨hd, hstop⟩, e1] at this
            exact this
          have HSK := hidP hsk
          clear hsk
          refine gen_frame (fun T2 => T2.size = 735 ∧ Keeps 81 734 [58, 61, 62, 73] T T2 ∧ T2[58]?.getD undef = .slice (some ⟨gg, 0, none⟩) (N + 6) cp ∧ T2[61]?.getD undef = .int .i64 (yc + 1 : Nat)) ⟨by simp [hT], ?_, by simp [hT], by simp [hT]⟩ ?_
          · repeat (refine Keeps.put ?_ _ _ (by first | exact .inr ⟨by decide, by decide⟩ | exact .inl (by decide)))
            exact HK.out
          clear a23 a35 a49 a59 a63 a58 a61 a62 a73 HK hT
          clear T2
          rintro T2 ⟨hT, hK, u58, u61⟩
          have a58 : T2[58]'(by omega) = _ := at_of _ u58
          have a61 : T2[61]'(by omega) = _ := at_of _ u61
          have HK := hidP hK
          clear hK u58 u61
          go_wp2_with fail
          have hsk := HSK.out
          refine HQ.out _ _ (.slice (some ⟨gg, 0, none⟩) (N + 6) cp) ?_ (by simp [hT, a58]) ?_ ?_ ?_ ?_
          · repeat (refine Keeps.put ?_ _ _ (by first | exact .inr ⟨by decide, by decide⟩ | exact .inl (by decide)))
            exact HK.out
          · rw [hsk]
            have : y + cntC c.cr r ((some q).getD p.n) = yc + 1 := by rw [← e1] at hcntq ⊢; simpa using hcntq
            rw [this]
            simp [hT, a61]
          · rw [hsk]; simp [hT]
          · rw [hsk]
            have h1 := HWN2.out
            have h2 := HCL.out
            rw [hd, if_pos rfl, e1] at h2
            show Want B CA w0 w2 _ (xs ++ coresL c.cr (fun _ => r) r q)
            rw [h2, ← List.append_assoc]
            exact h1
          · rw [hsk]
            have h1 := HCA3.out
            rw [e1] at h1
            exact h1
        · have hsI : ¬ (yc : Int) + 1 = (s : Int) := by omega
          refine wp_cond_at false (by simp [Act.eval, hT, hsI]) (fun h => by cases h) (fun _ => ?_)
          refine gen_frame (fun T2 => T2.size = 735 ∧ Keeps 81 734 [58, 61, 62, 73] T T2 ∧ T2[58]?.getD undef = .slice (some ⟨gg, 0, none⟩) (N + 6) cp ∧ T2[61]?.getD undef = .int .i64 (yc + 1 : Nat) ∧ T2[62]?.getD undef = .bool false ∧ T2[73]?.getD undef = .int .i64 q) ⟨by simp [hT], ?_, by simp [hT], by simp [hT], by simp [hT, a62], by simp [hT, a73]⟩ ?_
          · repeat (refine Keeps.put ?_ _ _ (by first | exact .inr ⟨by decide, by decide⟩ | exact .inl (by decide)))
            exact HK.out
          clear a23 a35 a49 a59 a63 a58 a61 a62 a73 HK hT
          clear T2
          rintro T2 ⟨hT, hK, u58, u61, u62, u73⟩
          have a58 : T2[58]'(by omega) = _ := at_of _ u58
          have a61 : T2[61]'(by omega) = _ := at_of _ u61
          have a62 : T2[62]'(by omega) = _ := at_of _ u62
          have a73 : T2[73]'(by omega) = _ := at_of _ u73
          have HK := hidP hK
          clear hK u58 u61 u62 u73
          go_wp2_with fail
          first | refine ⟨trivial, k - 1, by omega, ?_⟩ | refine ⟨k - 1, by omega, ?_⟩
          rw [HI.out]
          refine ⟨q + 1, by omega, by omega, ?_, ?_, by simp [hT, a62], by simp [hT], ?_, .slice (some ⟨gg, 0, none⟩) (N + 6) cp, by simp [hT, a58], ?_, ?_⟩
          · repeat (refine Keeps.put ?_ _ _ (by first | exact .inr ⟨by decide, by decide⟩ | exact .inl (by decide)))
            exact HK.out
          · rw [e2, hcntq]
            simp [hT, a61]
          · rw [e2, HST.out, hcntq, if_neg (fun h => hstop h.2)]
          · rw [e2, HCL.out, hd, if_pos rfl, ← List.append_assoc]
            exact HWN2.out
          · rw [e2]
            exact HCA3.out
    · have hqn : q - 1 = p.n := by have := of_decide_eq_false h; omega
      clear h
      go_wp2_with fail
      have hw := HW.out
      have hca := HCA.out
      have hno := HNO.out
      rw [hqn] at hw hca hno
      rw [HS.out] at hno
      refine HQ.out _ _ wv ?_ (by simp [hT, a58]) ?_ ?_ ?_ ?_
      · repeat (refine Keeps.put ?_ _ _ (by first | exact .inr ⟨by decide, by decide⟩ | exact .inl (by decide)))
        exact HK.out
      · rw [hno]; simp [hT, a61, hqn]
      · rw [hno]; simp [hT, a62]
      · rw [hno]; exact hw
      · rw [hno]; exact hca
  · rw [HI.out]
    have e : coreU c (fun _ => r) r (1 - 1) cm = cm := by
      funext x
      unfold coreU
      rw [if_neg (by omega)]
    refine ⟨1, by omega, by omega, Keeps.refl, by simpa [cntC] using t61, t62, t73, rfl, v, t58, by simpa [coresL] using HW0.out.1, ?_⟩
    rw [e]
    exact HW0.out.2
end Go.Proofs.Ybulkcawy
