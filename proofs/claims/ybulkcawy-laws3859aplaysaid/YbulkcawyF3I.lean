/-
  LawS3859APlay: the log that it wants: the rounds.
-/
import Derived.Test.YbulkcawyF3H
namespace Go.Proofs.Ybulkcawy
open Go.RowKit
set_option linter.unusedSimpArgs false
set_option linter.unusedVariables false
set_option maxRecDepth 100000
set_option maxHeartbeats 1000000

def cmK (c : Cfg) (keep : Bool) (R K : Nat) : Nat → Option (Nat × Nat) := if keep then cmAt c R K else fun _ => none

theorem f3_18 (p : Inp) (hp : p.ok) (c : Cfg) (pp : Par) (hcn : c.n = p.n) (hcr : c.cr = upTo p.n p.crA) (hcl : c.last = p.last) (hpk : pp.keep = p.keep) (hps : pp.s = p.stopA) (hrecv : ∀ r, 1 ≤ r → r ≤ p.last → recvsL c pp r c.n = wantsR p r p.n) (B CA SB : Nat) (evv : Value) (w0 : World) (he : WEnv p B CA SB evv w0) (hB0 : B ≤ w0.heap.size) (hca0 : Row w0 CA 78 36 (fun _ => .int .i64 0)) (T : Array Value) (Q : Exit → Act → World → Prop) (hT0 : T.size = 735) (t2 : T[2]?.getD undef = .bool p.keep) (t23 : T[23]?.getD undef = .int .i64 p.n) (t24 : T[24]?.getD undef = .int .i64 p.last) (t25 : T[25]?.getD undef = .pointer (some ⟨B, 0, none⟩)) (t26 : T[26]?.getD undef = .pointer (some ⟨B + 1, 0, none⟩)) (t28 : T[28]?.getD undef = .pointer (some ⟨B + 3, 0, none⟩)) (t35 : T[35]?.getD undef = .func (.func 8) #[] #[.pointer (some ⟨B, 0, none⟩)]) (t43 : T[43]?.getD undef = evv) (t49 : T[49]?.getD undef = .pointer (some ⟨SB, 0, none⟩)) (t59 : T[59]?.getD undef = .pointer (some ⟨CA, 0, none⟩)) (t58 : T[58]?.getD undef = .slice none 0 0) (t60 : T[60]?.getD undef = .int .i64 p.last) (t61 : T[61]?.getD undef = .int .i64 0) (t62 : T[62]?.getD undef = .bool false) (t63 : T[63]?.getD undef = .int .i64 1)
    (hQ : ∀ T' w' v', Keeps 81 734 [58, 60, 61, 62, 63, 64, 65, 66, 67, 68, 69, 70, 71, 72, 73, 74] T T' → T'[58]?.getD undef = v' → T'[60]?.getD undef = .int .i64 (endR c pp p.last 1) → Want B CA w0 w' v' (runL c pp p.last 1) → Row w' CA 78 36 (fun x => .int .i64 (caOf (cmK c p.keep (endR c pp p.last 1) ((stopR c pp (endR c pp p.last 1)).getD c.n)) x)) → Q .normal ⟨T', []⟩ w') : (blkOf Yba.f3 18).wp Yba.prog Q ⟨T, []⟩ w0 := by
  conv in (blkOf Yba.f3 18) => whnf
  refine wp_block ?_
  have HQ := hidP hQ
  have HE := hidP he
  have HP := hidP hp
  have hn6 := hp.n6
  have hn1 := hp.n1
  have hl5 := hp.l5
  have HCR := hidP hcr
  have HCN := hidP hcn
  have HCL := hidP hcl
  have HPK := hidP hpk
  have HPS := hidP hps
  have HRV := hidP hrecv
  have HCA0 := hidP hca0
  obtain ⟨mc, hmc⟩ := he.CA
  have hCAlt := hmc.lt
  clear hQ hp he hcr hcn hcl hpk hps hrecv hca0 hmc
  obtain ⟨i0, hi0, hz0, hz1, hz2⟩ := info_parts info3'
  obtain ⟨I, hI⟩ : ∃ I : Nat → Array Value → World → Prop, I = (fun k T2 wr => ∃ r, 1 ≤ r ∧ r + k = p.last + 1 ∧ Keeps 81 734 [58, 60, 61, 62, 63, 64, 65, 66, 67, 68, 69, 70, 71, 72, 73, 74] T T2 ∧ T2[60]?.getD undef = .int .i64 p.last ∧ T2[61]?.getD undef = .int .i64 (if p.keep then yR c.cr c.n (r - 1) else 0 : Nat) ∧ T2[62]?.getD undef = .bool false ∧ T2[63]?.getD undef = .int .i64 r ∧ ∃ wv xs1, T2[58]?.getD undef = wv ∧ Want B CA w0 wr wv xs1 ∧ Row wr CA 78 36 (fun x => .int .i64 (caOf (cmK c p.keep r 0) x)) ∧ xs1.length ≤ 3000 * (r - 1) ∧ xs1 ++ runL c pp (p.last + 1 - r) r = runL c pp p.last 1 ∧ endR c pp (p.last + 1 - r) r = endR c pp p.last 1 ∧ (2 ≤ r → stopR c pp (r - 1) = none)) := ⟨_, rfl⟩
  have HI := hidP hI
  clear hI
  refine wp_loop_n I ?_ p.last _ _ ?_
  · intro k T2 wr hIk
    rw [HI.out] at hIk
    obtain ⟨r, hr1, hrk, hK, u60, u61, u62, u63, wv, xs1, u58, hw, hca, hxl, hrun, hend, hnst⟩ := hIk
    have hT : T2.size = 735 := hK.1.trans hT0
    obtain ⟨yk, hyk⟩ : ∃ yk, yk = (if p.keep then yR c.cr c.n (r - 1) else 0 : Nat) := ⟨_, rfl⟩
    rw [← hyk] at u61
    have a2 := hK.at' hT 2 (by decide) t2 (by decide) (by decide)
    have a23 := hK.at' hT 23 (by decide) t23 (by decide) (by decide)
    have a24 := hK.at' hT 24 (by decide) t24 (by decide) (by decide)
    have a25 := hK.at' hT 25 (by decide) t25 (by decide) (by decide)
    have a26 := hK.at' hT 26 (by decide) t26 (by decide) (by decide)
    have a28 := hK.at' hT 28 (by decide) t28 (by decide) (by decide)
    have a35 := hK.at' hT 35 (by decide) t35 (by decide) (by decide)
    have a43 := hK.at' hT 43 (by decide) t43 (by decide) (by decide)
    have a49 := hK.at' hT 49 (by decide) t49 (by decide) (by decide)
    have a59 := hK.at' hT 59 (by decide) t59 (by decide) (by decide)
    have a58 : T2[58]'(by omega) = _ := at_of _ u58
    have a60 : T2[60]'(by omega) = _ := at_of _ u60
    have a61 : T2[61]'(by omega) = _ := at_of _ u61
    have a62 : T2[62]'(by omega) = _ := at_of _ u62
    have a63 : T2[63]'(by omega) = _ := at_of _ u63
    have HK := hidP hK
    clear hK u58 u60 u61 u62 u63
    have HW := hidP hw
    have HCA := hidP hca
    have HYK := hidP hyk
    have HRUN := hidP hrun
    have HEND := hidP hend
    have HNST := hidP hnst
    have HXL := hidP hxl
    clear hw hca hyk hrun hend hnst
    go_upto_if 428 with fail
    refine wp_cond_at (decide (r ≤ p.last)) (by simp [Act.eval, hT]) (fun h => ?_) (fun h => ?_)
    · have hrl : r ≤ p.last := of_decide_eq_true h
      clear h
      refine gen_frame (fun T2 => T2.size = 735 ∧ Keeps 81 734 [58, 60, 61, 62, 63, 64, 65, 66, 67, 68, 69, 70, 71, 72, 73, 74] T T2 ∧ T2[58]?.getD undef = wv ∧ T2[60]?.getD undef = .int .i64 p.last ∧ T2[61]?.getD undef = .int .i64 yk ∧ T2[62]?.getD undef = .bool false ∧ T2[63]?.getD undef = .int .i64 r) ⟨by simp [hT], ?_, by simp [hT, a2, a23, a24, a25, a26, a28, a35, a43, a49, a59, a58, a60, a61, a62, a63], by simp [hT, a2, a23, a24, a25, a26, a28, a35, a43, a49, a59, a58, a60, a61, a62, a63], by simp [hT, a2, a23, a24, a25, a26, a28, a35, a43, a49, a59, a58, a60, a61, a62, a63], by simp [hT, a2, a23, a24, a25, a26, a28, a35, a43, a49, a59, a58, a60, a61, a62, a63], by simp [hT, a2, a23, a24, a25, a26, a28, a35, a43, a49, a59, a58, a60, a61, a62, a63]⟩ ?_
      · repeat (refine Keeps.put ?_ _ _ (by first | exact .inr ⟨by decide, by decide⟩ | exact .inl (by decide)))
        exact HK.out
      clear a2 a23 a24 a25 a26 a28 a35 a43 a49 a59 a58 a60 a61 a62 a63 HK hT
      clear T2
      rintro T2 ⟨hT, hK, u58, u60, u61, u62, u63⟩
      have a2 := hK.at' hT 2 (by decide) t2 (by decide) (by decide)
      have a23 := hK.at' hT 23 (by decide) t23 (by decide) (by decide)
      have a24 := hK.at' hT 24 (by decide) t24 (by decide) (by decide)
      have a25 := hK.at' hT 25 (by decide) t25 (by decide) (by decide)
      have a26 := hK.at' hT 26 (by decide) t26 (by decide) (by decide)
      have a28 := hK.at' hT 28 (by decide) t28 (by decide) (by decide)
      have a35 := hK.at' hT 35 (by decide) t35 (by decide) (by decide)
      have a43 := hK.at' hT 43 (by decide) t43 (by decide) (by decide)
      have a49 := hK.at' hT 49 (by decide) t49 (by decide) (by decide)
      have a59 := hK.at' hT 59 (by decide) t59 (by decide) (by decide)
      have a58 : T2[58]'(by omega) = _ := at_of _ u58
      have a60 : T2[60]'(by omega) = _ := at_of _ u60
      have a61 : T2[61]'(by omega) = _ := at_of _ u61
      have a62 : T2[62]'(by omega) = _ := at_of _ u62
      have a63 : T2[63]'(by omega) = _ := at_of _ u63
      have HK := hidP hK
      clear hK u58 u60 u61 u62 u63
      obtain ⟨XL, hXL⟩ : ∃ XL : List Int, XL = xs1 := ⟨_, rfl⟩
      have hwx := HW.out
      rw [← hXL] at hwx
      have hown := hwx.1
      have hlenX : XL.length ≤ 100000 := by rw [hXL]; omega
      obtain ⟨N, hN⟩ : ∃ N, N = XL.length := ⟨_, rfl⟩
      rw [← hN] at hown hlenX
      have HN := hidP hN
      have HXL := hidP hXL
      have HWX := hidP hwx
      have HOWN := hidP hown
      have hsz := HW.out.2.2.size
      have hBw : B ≤ wr.heap.size := Nat.le_trans hB0 hsz
      clear hN hown hXL hwx
      go_wp2_with (at_builtin; refine wpList_append_lies _ rfl _ _ 29 rfl B 3 i0 (.int .i64 0) 1 8 Yba.underlying29 hi0 hz0 hz1 hz2 rfl (by decide) wv N (intsV XL) (by simp [Act.eval, hT]) (HOWN.out.alloc _) ⟨wr.heap.size, 0, none⟩ 2 2 (intsV [-2, (r : Int)]) (by simp [Act.eval, hT]) rfl (by exact World.news_of_block (heap_alloc_new wr (.cells #[.int .i64 (-2), .int .i64 r] 3))) (by simp [intsV, Value.oneCell']) (by decide) (by show _ ≤ 9223372036854775807; omega) (by omega) (by first | omega | (simp; omega)) (wr.heap.size + 1) (by simp) ?_)
      intro gg cp w1 hown1 hgrow hat hlt
      have hwant : Want B CA w0 w1 (.slice (some ⟨gg, 0, none⟩) (N + 2) cp) (xs1 ++ [-2, (r : Int)]) := by
        have := HWX.out.app (ys := [-2, (r : Int)]) HN.out rfl hown1 hgrow (by rcases hat with h | h; exact .inl h; exact .inr (by omega))
        rwa [HXL.out] at this
      have HCW := hidP (Want.row HCA.out HWX.out hCAlt (grown_own HWX.out.1 (Only.refl.alloc _) (by rw [← HN.out]; exact hown1) hgrow))
      have HW' := hidP hwant
      clear hown1 hgrow hat hlt hwant
      obtain ⟨wv2, hwv2⟩ : ∃ wv2, wv2 = Value.slice (some ⟨gg, 0, none⟩) (N + 2) cp := ⟨_, rfl⟩
      go_upto_block 20 with fail
      have hWW := HW'.out
      rw [← hwv2] at hWW
      refine gen_frame (fun T2 => T2.size = 735 ∧ Keeps 81 734 [58, 60, 61, 62, 63, 64, 65, 66, 67, 68, 69, 70, 71, 72, 73, 74] T T2 ∧ T2[58]?.getD undef = wv2 ∧ T2[60]?.getD undef = .int .i64 p.last ∧ T2[61]?.getD undef = .int .i64 yk ∧ T2[62]?.getD undef = .bool false ∧ T2[63]?.getD undef = .int .i64 r ∧ T2[64]?.getD undef = .int .i64 1) ⟨by simp [hT], ?_, by simp [hT, hwv2], by simp [hT, a60], by simp [hT, a61], by simp [hT, a62], by simp [hT, a63], by simp [hT]⟩ ?_
      · repeat (refine Keeps.put ?_ _ _ (by first | exact .inr ⟨by decide, by decide⟩ | exact .inl (by decide)))
        exact HK.out
      rintro T4 ⟨hT4, hK5, s58, s60, s61, s62, s63, s64⟩
      refine f3_20 p HP.out B CA SB evv w0 HE.out hB0 r hr1 (by omega) (xs1 ++ [-2, (r : Int)]) (by rw [List.length_append]; simp only [List.length_cons, List.length_nil]; omega) wv2 _ w1 hWW HCW.out T4 _ hT4 (hK5.get t23 (by decide) (by decide)) (hK5.get t35 (by decide) (by decide)) s63 s58 s64 ?_
      intro T5 w2 wv3 hK6 e58 hw3 hca3
      have hK7 : Keeps 81 734 [58, 60, 61, 62, 63, 64, 65, 66, 67, 68, 69, 70, 71, 72, 73, 74] T T5 := Keeps.trans hK5 (hK6.mono (fun i hi => by simp at hi; exact .inl (by simp; omega)) (by decide) (by decide))
      have hT5 : T5.size = 735 := hK7.1.trans hT0
      have g60 : T5[60]?.getD undef = .int .i64 p.last := hK6.get s60 (by decide) (by decide)
      have g61 : T5[61]?.getD undef = .int .i64 yk := hK6.get s61 (by decide) (by decide)
      have g62 : T5[62]?.getD undef = .bool false := hK6.get s62 (by decide) (by decide)
      have g63 : T5[63]?.getD undef = .int .i64 r := hK6.get s63 (by decide) (by decide)
      have hhead : xs1 ++ [-2, (r : Int)] ++ sentsL (upTo p.n p.crA) r p.n = xs1 ++ headL c r := by
        rw [List.append_assoc]
        unfold headL sentsL
        rw [HCR.out, HCN.out]
      rw [hhead] at hw3
      have d58 : T5[58]'(by omega) = wv3 := at_of _ e58
      have d60 : T5[60]'(by omega) = .int .i64 p.last := at_of _ g60
      have d61 : T5[61]'(by omega) = .int .i64 yk := at_of _ g61
      have d62 : T5[62]'(by omega) = .bool false := at_of _ g62
      have d63 : T5[63]'(by omega) = .int .i64 r := at_of _ g63
      have HK7 := hidP hK7
      have HW3 := hidP hw3
      have HCA3 := hidP hca3
      clear hhead hK5 hK6 hK7 hw3 hca3 s58 s60 s61 s62 s63 s64 hWW hwv2 e58 g60 g61 g62 g63 a2 a23 a24 a25 a26 a28 a35 a43 a49 a59 a58 a60 a61 a62 a63 HK
      go_upto_block 22 with fail
      have hks : ∀ x, Keeps 81 734 [58, 60, 61, 62, 63, 64, 65, 66, 67, 68, 69, 70, 71, 72, 73, 74] T (T5.setIfInBounds 65 x) := fun x => by
        repeat (refine Keeps.put ?_ _ _ (by first | exact .inr ⟨by decide, by decide⟩ | exact .inl (by decide)))
        exact HK7.out
      have hhl := headL_len c r
      have hcn6 : c.n ≤ 6 := by rw [HCN.out]; exact hn6
      refine f3_22 p HP.out B CA SB evv w0 HE.out hB0 r hr1 (by omega) (xs1 ++ headL c r) (by rw [List.length_append]; omega) wv3 _ w2 HW3.out HCA3.out _ _ (by simp [hT5]) ((hks _).get t2 (by decide) (by decide)) ((hks _).get t23 (by decide) (by decide)) ((hks _).get t25 (by decide) (by decide)) ((hks _).get t26 (by decide) (by decide)) ((hks _).get t28 (by decide) (by decide)) ((hks _).get t35 (by decide) (by decide)) ((hks _).get t43 (by decide) (by decide)) (by simp [hT5, d63]) (by simp [hT5, d58]) (by simp [hT5]) ?_
      intro T6 w3 wv4 hK8 e58 hw4 hca4
      have hK9 : Keeps 81 734 [58, 60, 61, 62, 63, 64, 65, 66, 67, 68, 69, 70, 71, 72, 73, 74] T T6 := Keeps.trans (hks _) (hK8.mono (fun i hi => by simp at hi; exact .inl (by simp; omega)) (by decide) (by decide))
      have hT6 : T6.size = 735 := hK9.1.trans hT0
      have b60 : T6[60]'(by omega) = .int .i64 p.last := at_of _ (hK8.get (by simp [hT5, d60]) (by decide) (by decide))
      have b61 : T6[61]'(by omega) = .int .i64 yk := at_of _ (hK8.get (by simp [hT5, d61]) (by decide) (by decide))
      have b62 : T6[62]'(by omega) = .bool false := at_of _ (hK8.get (by simp [hT5, d62]) (by decide) (by decide))
      have b63 : T6[63]'(by omega) = .int .i64 r := at_of _ (hK8.get (by simp [hT5, d63]) (by decide) (by decide))
      have b58 : T6[58]'(by omega) = wv4 := at_of _ e58
      have b2 := hK9.at' hT6 2 (by decide) t2 (by decide) (by decide)
      rw [← HRV.out r hr1 hrl] at hw4
      have HK9 := hidP hK9
      have HW4 := hidP hw4
      have HCA4 := hidP hca4
      have hwl : (recvsL c pp r c.n).length ≤ 1860 := by
        rw [HRV.out r hr1 hrl]
        have := wantsR_len p HP.out r p.n
        omega
      clear hK8 hK9 hw4 hca4 e58 hks d58 d60 d61 d62 d63 HK7 HW3 HCA3
      -- the cores
      go_upto_if 577 with fail
      rename_i K577 hK577
      have HK577 := hidP hK577
      clear hK577
      suffices merge : ∀ T2 w1 wv (yk2 : Nat), (T2.size = 735 ∧ Keeps 81 734 [58, 60, 61, 62, 63, 64, 65, 66, 67, 68, 69, 70, 71, 72, 73, 74] T T2 ∧ T2[58]?.getD undef = wv ∧ T2[60]?.getD undef = .int .i64 p.last ∧ T2[61]?.getD undef = .int .i64 yk2 ∧ T2[62]?.getD undef = .bool (stopR c pp r).isSome ∧ T2[63]?.getD undef = .int .i64 r) ∧ Want B CA w0 w1 wv (xs1 ++ headL c r ++ recvsL c pp r c.n ++ coreLr c pp r) ∧ Row w1 CA 78 36 (fun x => .int .i64 (caOf (cmK c p.keep r ((stopR c pp r).getD c.n)) x)) ∧ yk2 = (if p.keep then yR c.cr c.n (r - 1) + cntC c.cr r ((stopR c pp r).getD c.n) else 0) → K577 ⟨T2, []⟩ w1 by
        have MERGE := hidP merge
        clear merge
        cases hkeep : p.keep with
        | false =>
          refine wp_cond_at false (by simp [Act.eval, hT6, b2, hkeep]) (fun h => by cases h) (fun _ => ?_)
          go_wp2_with fail
          have hsr : stopR c pp r = none := by unfold stopR; rw [HPK.out, hkeep]; rfl
          have hcl0 : coreLr c pp r = [] := by unfold coreLr; rw [HPK.out, hkeep]; rfl
          refine MERGE.out _ w3 wv4 yk ⟨⟨by simp [hT6], ?_, by simp [hT6, b58], by simp [hT6, b60], by simp [hT6, b61], by simp [hT6, b62, hsr], by simp [hT6, b63]⟩, ?_, ?_, ?_⟩
          · repeat (refine Keeps.put ?_ _ _ (by first | exact .inr ⟨by decide, by decide⟩ | exact .inl (by decide)))
            exact HK9.out
          · rw [hcl0, List.append_nil]
            exact HW4.out
          · have h1 := HCA4.out
            rw [hkeep] at h1 ⊢
            exact h1
          · rw [HYK.out, hkeep]
            rfl
        | true =>
          refine wp_cond_at true (by simp [Act.eval, hT6, b2, hkeep]) (fun _ => ?_) (fun h => by cases h)
          go_upto_block 30 with fail
          have hks : ∀ x x2, Keeps 81 734 [58, 60, 61, 62, 63, 64, 65, 66, 67, 68, 69, 70, 71, 72, 73, 74] T ((T6.setIfInBounds 577 x).setIfInBounds 73 x2) := fun x x2 => by
            repeat (refine Keeps.put ?_ _ _ (by first | exact .inr ⟨by decide, by decide⟩ | exact .inl (by decide)))
            exact HK9.out
          have hy1 := yR_le c.cr c.n (r - 1)
          have hyb : yk ≤ 900 := by
            rw [HYK.out, hkeep]
            have h2 : c.n * (r - 1) ≤ 6 * 100 := Nat.mul_le_mul hcn6 (by omega)
            simp only [if_true]
            omega
          have hca5 : Row w3 CA 78 36 (fun x => .int .i64 (caOf (cmAt c r 0) x)) := by
            have h1 := HCA4.out
            rw [hkeep] at h1
            exact h1
          refine f3_30 p HP.out c HCN.out HCR.out B CA SB evv w0 HE.out hB0 r hr1 (by omega) yk hyb (cmAt c r 0) (xs1 ++ headL c r ++ recvsL c pp r c.n) (by rw [List.length_append, List.length_append]; omega) wv4 w3 HW4.out hca5 _ _ (by simp [hT6]) ((hks _ _).get t23 (by decide) (by decide)) ((hks _ _).get t35 (by decide) (by decide)) ((hks _ _).get t49 (by decide) (by decide)) ((hks _ _).get t59 (by decide) (by decide)) (by simp [hT6, b63]) (by simp [hT6, b58]) (by simp [hT6, b61]) (by simp [hT6, b62]) (by simp [hT6]) ?_
          intro T7 w4 wv5 hK10 e58 e61 e62 hw5 hca6
          have hK11 : Keeps 81 734 [58, 60, 61, 62, 63, 64, 65, 66, 67, 68, 69, 70, 71, 72, 73, 74] T T7 := Keeps.trans (hks _ _) (hK10.mono (fun i hi => by simp at hi; exact .inl (by simp; omega)) (by decide) (by decide))
          have hsr : stopR c pp r = stopK c.cr r yk p.stopA p.n := by
            unfold stopR
            rw [HPK.out, hkeep, HPS.out, HYK.out, hkeep, HCN.out]
            rfl
          have hkk : (stopR c pp r).getD c.n ≤ c.n := by
            rw [hsr, HCN.out]
            cases hs : stopK c.cr r yk p.stopA p.n with
            | none => exact Nat.le_refl _
            | some j => exact (stopK_le _ _ _ _ hs).2
          rw [← hsr, ← HCN.out] at e61 hw5 hca6
          rw [← hsr] at e62
          have hyy : yk = yR c.cr c.n (r - 1) := by rw [HYK.out, hkeep]; rfl
          refine MERGE.out T7 w4 wv5 (yk + cntC c.cr r ((stopR c pp r).getD c.n)) ⟨⟨hK11.1.trans hT0, hK11, e58, hK10.get (by simp [hT6, b60]) (by decide) (by decide), e61, e62, hK10.get (by simp [hT6, b63]) (by decide) (by decide)⟩, ?_, ?_, ?_⟩
          · have : coreLr c pp r = coresL c.cr (fun _ => r) r ((stopR c pp r).getD c.n) := by unfold coreLr; rw [HPK.out, hkeep]; rfl
            rw [this]
            exact hw5
          · have h9 := coreU_cmAt c (by rw [HCN.out]; exact hn1) r hr1 (fun _ => r) (fun _ _ _ _ => rfl) _ hkk
            rw [h9] at hca6
            rw [hkeep]
            exact hca6
          · rw [hyy, hkeep]
            rfl
      clear b2 b58 b60 b61 b62 b63 HK9 HW4 HCA4 HW HCA HCW HW'
      rintro T2 w1 wv yk2 ⟨⟨hT, hK, u58, u60, u61, u62, u63⟩, hw, hca, hyk2⟩
      have a23 := hK.at' hT 23 (by decide) t23 (by decide) (by decide)
      have a24 := hK.at' hT 24 (by decide) t24 (by decide) (by decide)
      have a35 := hK.at' hT 35 (by decide) t35 (by decide) (by decide)
      have a58 : T2[58]'(by omega) = _ := at_of _ u58
      have a60 : T2[60]'(by omega) = _ := at_of _ u60
      have a61 : T2[61]'(by omega) = _ := at_of _ u61
      have a62 : T2[62]'(by omega) = _ := at_of _ u62
      have a63 : T2[63]'(by omega) = _ := at_of _ u63
      have HK := hidP hK
      clear hK u58 u60 u61 u62 u63
      refine HK577.out _ _ ?_
      have HW := hidP hw
      have HCA := hidP hca
      have HYK2 := hidP hyk2
      have hkk : (stopR c pp r).getD c.n ≤ c.n := by
        cases hk : pp.keep with
        | false =>
          have : stopR c pp r = none := by unfold stopR; rw [hk]; rfl
          rw [this]
          exact Nat.le_refl _
        | true =>
          have : stopR c pp r = stopK c.cr r (yR c.cr c.n (r - 1)) pp.s c.n := by unfold stopR; rw [hk]; rfl
          rw [this]
          cases hs : stopK c.cr r (yR c.cr c.n (r - 1)) pp.s c.n with
          | none => exact Nat.le_refl _
          | some j => exact (stopK_le _ _ _ _ hs).2
      have hcb : (coreLr c pp r).length ≤ 36 := by
        have h1 := coresL_len c.cr (fun _ => r) r ((stopR c pp r).getD c.n)
        unfold coreLr
        cases pp.keep
        · simp
        · simp only [if_true]
          omega
      clear hw hca hyk2
      obtain ⟨sp, hsp⟩ : ∃ sp, sp = (stopR c pp r).isSome := ⟨_, rfl⟩
      rw [← hsp] at a62
      have HSP := hidP hsp
      clear hsp
      go_upto_if 609 with fail
      refine wp_cond_at sp (by simp [Act.eval, hT]) (fun h => ?_) (fun h => ?_)
      · -- ended
        have hsome : (stopR c pp r).isSome = true := by rw [← HSP.out]; exact h
        have HSO := hidP hsome
        clear hsome
        go_wp2_with fail
        have hsome := HSO.out
        have hrun := HRUN.out
        have hend := HEND.out
        rw [show p.last + 1 - r = (p.last + 1 - (r + 1)) + 1 by omega, runL, hsome] at hrun
        rw [show p.last + 1 - r = (p.last + 1 - (r + 1)) + 1 by omega, endR, hsome] at hend
        simp only [if_true, List.append_nil] at hrun hend
        have hw := HW.out
        have hca := HCA.out
        rw [List.append_assoc, List.append_assoc, ← List.append_assoc (headL c r), hrun] at hw
        rw [hend] at hca
        refine HQ.out _ _ wv ?_ (by simp [hT, a58]) ?_ hw hca
        · repeat (refine Keeps.put ?_ _ _ (by first | exact .inr ⟨by decide, by decide⟩ | exact .inl (by decide)))
          exact HK.out
        · rw [← hend]
          simp [hT]
      · -- not ended
        have hsn : stopR c pp r = none := by
          have h1 : (stopR c pp r).isSome = false := by rw [← HSP.out]; exact h
          cases hs : stopR c pp r with
          | none => rfl
          | some j => rw [hs] at h1; cases h1
        have HSN := hidP hsn
        clear hsn
        refine gen_frame (fun T2 => T2.size = 735 ∧ Keeps 81 734 [58, 60, 61, 62, 63, 64, 65, 66, 67, 68, 69, 70, 71, 72, 73, 74] T T2 ∧ T2[58]?.getD undef = wv ∧ T2[60]?.getD undef = .int .i64 p.last ∧ T2[61]?.getD undef = .int .i64 yk2 ∧ T2[62]?.getD undef = .bool sp ∧ T2[63]?.getD undef = .int .i64 r) ⟨by simp [hT], ?_, by simp [hT, a23, a24, a35, a58, a60, a61, a62, a63], by simp [hT, a23, a24, a35, a58, a60, a61, a62, a63], by simp [hT, a23, a24, a35, a58, a60, a61, a62, a63], by simp [hT, a23, a24, a35, a58, a60, a61, a62, a63], by simp [hT, a23, a24, a35, a58, a60, a61, a62, a63]⟩ ?_
        · repeat (refine Keeps.put ?_ _ _ (by first | exact .inr ⟨by decide, by decide⟩ | exact .inl (by decide)))
          exact HK.out
        clear a23 a24 a35 a58 a60 a61 a62 a63 HK hT
        clear T2
        rintro T2 ⟨hT, hK, u58, u60, u61, u62, u63⟩
        have a23 := hK.at' hT 23 (by decide) t23 (by decide) (by decide)
        have a24 := hK.at' hT 24 (by decide) t24 (by decide) (by decide)
        have a35 := hK.at' hT 35 (by decide) t35 (by decide) (by decide)
        have a58 : T2[58]'(by omega) = _ := at_of _ u58
        have a60 : T2[60]'(by omega) = _ := at_of _ u60
        have a61 : T2[61]'(by omega) = _ := at_of _ u61
        have a62 : T2[62]'(by omega) = _ := at_of _ u62
        have a63 : T2[63]'(by omega) = _ := at_of _ u63
        have HK := hidP hK
        clear hK u58 u60 u61 u62 u63
        have hyk3 : yk2 = (if p.keep then yR c.cr c.n (r + 1 - 1) else 0 : Nat) := by
          rw [HYK2.out, HSN.out]
          cases p.keep
          · rfl
          · show yR c.cr c.n (r - 1) + cntC c.cr r c.n = yR c.cr c.n r
            have : yR c.cr c.n (r - 1 + 1) = yR c.cr c.n (r - 1) + cntC c.cr (r - 1 + 1) c.n := rfl
            rw [show r - 1 + 1 = r by omega] at this
            exact this.symm
        have hca2 : Row w1 CA 78 36 (fun x => .int .i64 (caOf (cmK c p.keep (r + 1) 0) x)) := by
          have h1 := HCA.out
          rw [HSN.out] at h1
          have h2 : cmK c p.keep r ((none : Option Nat).getD c.n) = cmK c p.keep (r + 1) 0 := by
            unfold cmK
            cases p.keep
            · rfl
            · exact cmAt_next c (by rw [HCN.out]; exact hn1) r
          rw [h2] at h1
          exact h1
        have HYK3 := hidP hyk3
        have HCA2 := hidP hca2
        clear hyk3 hca2
        go_upto_if 613 with fail
        by_cases hrlt : r < p.last
        · refine wp_cond_at true (by simp [Act.eval, hT, hrlt]) (fun _ => ?_) (fun h => by cases h)
          refine gen_frame (fun T2 => T2.size = 735 ∧ Keeps 81 734 [58, 60, 61, 62, 63, 64, 65, 66, 67, 68, 69, 70, 71, 72, 73, 74] T T2 ∧ T2[58]?.getD undef = wv ∧ T2[60]?.getD undef = .int .i64 p.last ∧ T2[61]?.getD undef = .int .i64 yk2 ∧ T2[62]?.getD undef = .bool sp ∧ T2[63]?.getD undef = .int .i64 r) ⟨by simp [hT], ?_, by simp [hT, a23, a24, a35, a58, a60, a61, a62, a63], by simp [hT, a23, a24, a35, a58, a60, a61, a62, a63], by simp [hT, a23, a24, a35, a58, a60, a61, a62, a63], by simp [hT, a23, a24, a35, a58, a60, a61, a62, a63], by simp [hT, a23, a24, a35, a58, a60, a61, a62, a63]⟩ ?_
          · repeat (refine Keeps.put ?_ _ _ (by first | exact .inr ⟨by decide, by decide⟩ | exact .inl (by decide)))
            exact HK.out
          clear a23 a24 a35 a58 a60 a61 a62 a63 HK hT
          clear T2
          rintro T2 ⟨hT, hK, u58, u60, u61, u62, u63⟩
          have a23 := hK.at' hT 23 (by decide) t23 (by decide) (by decide)
          have a24 := hK.at' hT 24 (by decide) t24 (by decide) (by decide)
          have a35 := hK.at' hT 35 (by decide) t35 (by decide) (by decide)
          have a58 : T2[58]'(by omega) = _ := at_of _ u58
          have a60 : T2[60]'(by omega) = _ := at_of _ u60
          have a61 : T2[61]'(by omega) = _ := at_of _ u61
          have a62 : T2[62]'(by omega) = _ := at_of _ u62
          have a63 : T2[63]'(by omega) = _ := at_of _ u63
          have HK := hidP hK
          clear hK u58 u60 u61 u62 u63
          go_upto_block 32 with fail
          have hks : ∀ x, Keeps 81 734 [58, 60, 61, 62, 63, 64, 65, 66, 67, 68, 69, 70, 71, 72, 73, 74] T (T2.setIfInBounds 74 x) := fun x => by
            repeat (refine Keeps.put ?_ _ _ (by first | exact .inr ⟨by decide, by decide⟩ | exact .inl (by decide)))
            exact HK.out
          refine f3_32 p HP.out B CA SB evv w0 HE.out hB0 r (by omega) (xs1 ++ headL c r ++ recvsL c pp r c.n ++ coreLr c pp r) (by rw [List.length_append, List.length_append, List.length_append]; omega) wv _ w1 HW.out HCA2.out _ _ (by simp [hT]) ((hks _).get t23 (by decide) (by decide)) ((hks _).get t35 (by decide) (by decide)) (by simp [hT, a63]) (by simp [hT, a58]) (by simp [hT]) ?_
          intro T7 w4 wv5 hK10 e58 hw5 hca6
          have hK11 : Keeps 81 734 [58, 60, 61, 62, 63, 64, 65, 66, 67, 68, 69, 70, 71, 72, 73, 74] T T7 := Keeps.trans (hks _) (hK10.mono (fun i hi => by simp at hi; exact .inl (by simp; omega)) (by decide) (by decide))
          have hT7 : T7.size = 735 := hK11.1.trans hT0
          have d58 : T7[58]'(by omega) = wv5 := at_of _ e58
          have d60 : T7[60]'(by omega) = .int .i64 p.last := at_of _ (hK10.get (by simp [hT, a60]) (by decide) (by decide))
          have d61 : T7[61]'(by omega) = .int .i64 yk2 := at_of _ (hK10.get (by simp [hT, a61]) (by decide) (by decide))
          have d62 : T7[62]'(by omega) = .bool sp := at_of _ (hK10.get (by simp [hT, a62]) (by decide) (by decide))
          have d63 : T7[63]'(by omega) = .int .i64 r := at_of _ (hK10.get (by simp [hT, a63]) (by decide) (by decide))
          have HK11 := hidP hK11
          have HW5 := hidP hw5
          have HCA6 := hidP hca6
          clear hK10 hK11 e58 hw5 hca6 hks a23 a24 a35 a58 a60 a61 a62 a63 HK
          go_wp2_with fail
          first | refine ⟨trivial, k - 1, by omega, ?_⟩ | refine ⟨k - 1, by omega, ?_⟩
          rw [HI.out]
          have hrun := HRUN.out
          have hend := HEND.out
          have hst : (stopR c pp r).isSome = false := by rw [HSN.out]; rfl
          rw [show p.last + 1 - r = (p.last + 1 - (r + 1)) + 1 by omega, runL, hst] at hrun
          rw [show p.last + 1 - r = (p.last + 1 - (r + 1)) + 1 by omega, endR, hst] at hend
          refine ⟨r + 1, by omega, by omega, ?_, by simp [hT7, d60], ?_, by simp [hT7, d62, h], by simp [hT7], wv5, _, by simp [hT7, d58], HW5.out, HCA6.out, ?_, ?_, by simpa using hend, fun _ => HSN.out⟩
          · repeat (refine Keeps.put ?_ _ _ (by first | exact .inr ⟨by decide, by decide⟩ | exact .inl (by decide)))
            exact HK11.out
          · rw [← HYK3.out]
            simp [hT7, d61]
          · have := givesL_len (upTo p.n p.crA) r p.n
            rw [List.length_append, List.length_append, List.length_append, List.length_append]
            omega
          · rw [← hrun]
            have hrl2 : r < c.last := by rw [HCL.out]; exact hrlt
            simp [hrl2, List.append_assoc, HCR.out, HCN.out]
        · refine wp_cond_at false (by simp [Act.eval, hT, hrlt]) (fun h => by cases h) (fun _ => ?_)
          refine gen_frame (fun T2 => T2.size = 735 ∧ Keeps 81 734 [58, 60, 61, 62, 63, 64, 65, 66, 67, 68, 69, 70, 71, 72, 73, 74] T T2 ∧ T2[58]?.getD undef = wv ∧ T2[60]?.getD undef = .int .i64 p.last ∧ T2[61]?.getD undef = .int .i64 yk2 ∧ T2[62]?.getD undef = .bool sp ∧ T2[63]?.getD undef = .int .i64 r) ⟨by simp [hT], ?_, by simp [hT, a23, a24, a35, a58, a60, a61, a62, a63], by simp [hT, a23, a24, a35, a58, a60, a61, a62, a63], by simp [hT, a23, a24, a35, a58, a60, a61, a62, a63], by simp [hT, a23, a24, a35, a58, a60, a61, a62, a63], by simp [hT, a23, a24, a35, a58, a60, a61, a62, a63]⟩ ?_
          · repeat (refine Keeps.put ?_ _ _ (by first | exact .inr ⟨by decide, by decide⟩ | exact .inl (by decide)))
            exact HK.out
          clear a23 a24 a35 a58 a60 a61 a62 a63 HK hT
          clear T2
          rintro T2 ⟨hT, hK, u58, u60, u61, u62, u63⟩
          have a23 := hK.at' hT 23 (by decide) t23 (by decide) (by decide)
          have a24 := hK.at' hT 24 (by decide) t24 (by decide) (by decide)
          have a35 := hK.at' hT 35 (by decide) t35 (by decide) (by decide)
          have a58 : T2[58]'(by omega) = _ := at_of _ u58
          have a60 : T2[60]'(by omega) = _ := at_of _ u60
          have a61 : T2[61]'(by omega) = _ := at_of _ u61
          have a62 : T2[62]'(by omega) = _ := at_of _ u62
          have a63 : T2[63]'(by omega) = _ := at_of _ u63
          have HK := hidP hK
          clear hK u58 u60 u61 u62 u63
          go_wp2_with fail
          first | refine ⟨trivial, k - 1, by omega, ?_⟩ | refine ⟨k - 1, by omega, ?_⟩
          rw [HI.out]
          have hrun := HRUN.out
          have hend := HEND.out
          have hst : (stopR c pp r).isSome = false := by rw [HSN.out]; rfl
          rw [show p.last + 1 - r = (p.last + 1 - (r + 1)) + 1 by omega, runL, hst] at hrun
          rw [show p.last + 1 - r = (p.last + 1 - (r + 1)) + 1 by omega, endR, hst] at hend
          refine ⟨r + 1, by omega, by omega, ?_, by simp [hT, a60], ?_, by simp [hT, a62, h], by simp [hT], wv, _, by simp [hT, a58], HW.out, HCA2.out, ?_, ?_, by simpa using hend, fun _ => HSN.out⟩
          · repeat (refine Keeps.put ?_ _ _ (by first | exact .inr ⟨by decide, by decide⟩ | exact .inl (by decide)))
            exact HK.out
          · rw [← HYK3.out]
            simp [hT, a61]
          · rw [List.length_append, List.length_append, List.length_append]
            omega
          · rw [← hrun]
            have hrl2 : ¬ r < c.last := by rw [HCL.out]; exact hrlt
            simp [hrl2, List.append_assoc]
    · have hrl : r = p.last + 1 := by have := of_decide_eq_false h; omega
      clear h
      go_wp2_with fail
      subst hrl
      have hrun := HRUN.out
      have hend := HEND.out
      rw [Nat.sub_self] at hrun hend
      have e1 : runL c pp 0 (p.last + 1) = [] := rfl
      have e2 : endR c pp 0 (p.last + 1) = c.last := rfl
      rw [e1, List.append_nil] at hrun
      rw [e2] at hend
      have hw := HW.out
      rw [hrun] at hw
      have hca := HCA.out
      have h3 : cmK c p.keep (p.last + 1) 0 = cmK c p.keep (endR c pp p.last 1) ((stopR c pp (endR c pp p.last 1)).getD c.n) := by
        rw [← hend]
        unfold cmK
        cases p.keep
        · rfl
        · simp only [if_true]
          rw [← HCL.out]
          exact cmAt_end c pp (by rw [HCN.out]; exact hn1) (fun h => by have := HNST.out (by rw [← HCL.out]; omega); rwa [← HCL.out, Nat.add_sub_cancel] at this)
      rw [h3] at hca
      refine HQ.out _ _ wv ?_ (by simp [hT, a58]) ?_ hw hca
      · repeat (refine Keeps.put ?_ _ _ (by first | exact .inr ⟨by decide, by decide⟩ | exact .inl (by decide)))
        exact HK.out
      · rw [← hend, HCL.out]
        simp [hT, a60]
  · rw [HI.out]
    refine ⟨1, by omega, by omega, Keeps.refl, t60, ?_, t62, t63, .slice none 0 0, [], t58, ⟨⟨rfl, .inl ⟨rfl, rfl⟩⟩, (fun b h => by simp [Value.ownBlock] at h), Only.refl⟩, HCA0.out.ext fun x hx => ?_, by simp, by simp, by simp, fun h => by omega⟩
    · rw [t61]
      cases p.keep <;> rfl
    · have : cmK c p.keep 1 0 x = none := by
        unfold cmK
        cases p.keep
        · rfl
        · simp only [if_true]
          unfold cmAt
          generalize x / c.n = z
          rw [if_neg (by omega)]
      simp [caOf, this]
end Go.Proofs.Ybulkcawy
