/-
  LawS3859APlay: the log that it wants: a round's receivers.
-/
import Derived.Test.YbulkcawyF3F
namespace Go.Proofs.Ybulkcawy
open Go.RowKit
set_option linter.unusedSimpArgs false
set_option linter.unusedVariables false
set_option maxRecDepth 100000
set_option maxHeartbeats 1000000

def evPart (p : Inp) (r i : Nat) : List Int := if p.keep then [-4, (i : Int), ((selE r i (allE p (p.last + 1))).length : Int)] ++ (selE r i (allE p (p.last + 1))).flatMap Ev.code else []
def wantR (p : Inp) (r i : Nat) : List Int := if compl (upTo p.n p.crA) i r then evPart p r i ++ [(i : Int), (r : Int)] ++ okL p r i p.n else []
def wantsR (p : Inp) (r k : Nat) : List Int := (List.range k).flatMap fun j => wantR p r (j + 1)
theorem wantsR_succ (p : Inp) (r k : Nat) : wantsR p r (k + 1) = wantsR p r k ++ wantR p r (k + 1) := by simp [wantsR, List.range_succ, List.flatMap_append]
theorem mem_allE {p : Inp} {k : Nat} {e : Ev} (h : e ∈ allE p k) : ∃ m q, m < k ∧ 1 ≤ q ∧ q ≤ p.n ∧ e ∈ p.evE m q := by
  unfold allE at h
  obtain ⟨m, hm, h⟩ := List.mem_flatMap.1 h
  unfold rowQ at h
  obtain ⟨j, hj, h⟩ := List.mem_flatMap.1 h
  have := List.mem_range.1 hm
  have := List.mem_range.1 hj
  exact ⟨m, j + 1, by omega, by omega, by omega, h⟩
theorem mem_evE {p : Inp} {m q : Nat} {e : Ev} (h : e ∈ p.evE m q) : e.p = q ∧ e.t = m ∧ e.l ≤ 2 := by
  unfold Inp.evE at h
  split at h
  · obtain ⟨j, hj, rfl⟩ := List.mem_map.1 h
    have := List.mem_range.1 hj
    have := evC_le p m q
    exact ⟨rfl, rfl, by show j ≤ 2; omega⟩
  · simp at h
theorem evPart_len (p : Inp) (hp : p.ok) (r i : Nat) : (evPart p r i).length ≤ 300 := by
  unfold evPart
  split
  · have h1 : (selE r i (allE p (p.last + 1))).length ≤ 72 := by
      unfold selE
      refine Nat.le_trans (List.length_filter_le _ _) ?_
      have := allE_len p hp (p.last + 1)
      have := hp.l5
      omega
    rw [List.length_append, codes_len]
    simp only [List.length_cons, List.length_nil]
    omega
  · simp
theorem wantR_len (p : Inp) (hp : p.ok) (r i : Nat) : (wantR p r i).length ≤ 310 := by
  unfold wantR
  split
  · have := evPart_len p hp r i
    have h2 : (okL p r i p.n).length = p.n := by simp [okL]
    have := hp.n6
    rw [List.length_append, List.length_append, h2]
    simp only [List.length_cons, List.length_nil]
    omega
  · simp
theorem wantsR_len (p : Inp) (hp : p.ok) (r k : Nat) : (wantsR p r k).length ≤ 310 * k := by
  induction k with
  | zero => simp [wantsR]
  | succ k ih => rw [wantsR_succ, List.length_append]; have := wantR_len p hp r (k + 1); omega

theorem f3_22 (p : Inp) (hp : p.ok) (B CA SB : Nat) (evv : Value) (w0 : World) (he : WEnv p B CA SB evv w0) (hB0 : B ≤ w0.heap.size) (r : Nat) (hr1 : 1 ≤ r) (hr : r ≤ 5) (xs : List Int) (hxs : xs.length ≤ 70000) (v : Value) (m : Nat → Value) (w : World) (hw : Want B CA w0 w v xs) (hca : Row w CA 78 36 m) (T : Array Value) (Q : Exit → Act → World → Prop) (hT0 : T.size = 735) (t2 : T[2]?.getD undef = .bool p.keep) (t23 : T[23]?.getD undef = .int .i64 p.n) (t25 : T[25]?.getD undef = .pointer (some ⟨B, 0, none⟩)) (t26 : T[26]?.getD undef = .pointer (some ⟨B + 1, 0, none⟩)) (t28 : T[28]?.getD undef = .pointer (some ⟨B + 3, 0, none⟩)) (t35 : T[35]?.getD undef = .func (.func 8) #[] #[.pointer (some ⟨B, 0, none⟩)]) (t43 : T[43]?.getD undef = evv) (t63 : T[63]?.getD undef = .int .i64 r) (t58 : T[58]?.getD undef = v) (t65 : T[65]?.getD undef = .int .i64 1)
    (hQ : ∀ T' w' v', Keeps 81 734 [58, 65, 66, 67, 68, 69, 70, 71, 72] T T' → T'[58]?.getD undef = v' → Want B CA w0 w' v' (xs ++ wantsR p r p.n) → Row w' CA 78 36 m → Q .normal ⟨T', []⟩ w') : (blkOf Yba.f3 22).wp Yba.prog Q ⟨T, []⟩ w := by
  conv in (blkOf Yba.f3 22) => whnf
  refine wp_block ?_
  have HQ := hidP hQ
  have HE := hidP he
  have HP := hidP hp
  have HW0 := hidP (And.intro hw hca)
  have hn6 := hp.n6
  have hl5 := hp.l5
  obtain ⟨mc, hmc⟩ := he.CA
  have hCAlt := hmc.lt
  have hECA : ∀ g, evv.ownBlock = some g → g ≠ CA := fun g hg => by
    rcases he.ev.2 with ⟨e, _⟩ | ⟨g', cap, cur, e, h1, h2, _⟩
    · rw [e] at hg; simp [Value.ownBlock] at hg
    · rw [e] at hg
      simp [Value.ownBlock] at hg
      subst hg
      intro e2
      obtain ⟨cur', h3, _⟩ := hmc
      rw [← e2, h2] at h3
      injection h3 with h3
      injection h3 with _ h3
      cases h3
  have hevf : ∃ E ec, evv = .slice (some ⟨E, 0, none⟩) (allE p (p.last + 1)).length ec ∨ allE p (p.last + 1) = [] := by
    rcases he.ev.2 with ⟨_, e⟩ | ⟨g', cap, cur, e, h1, h2, _⟩
    · exact ⟨0, 0, .inr (List.eq_nil_of_length_eq_zero e)⟩
    · exact ⟨g', cap, .inl e⟩
  obtain ⟨evE', evC', hevf⟩ := hevf
  obtain ⟨eva, evc, hevform⟩ : ∃ a c, evv = .slice a (allE p (p.last + 1)).length c := by
    rcases he.ev.2 with ⟨e, e2⟩ | ⟨g', cap, cur, e, h1, h2, _⟩
    · exact ⟨none, 0, by rw [e, e2]⟩
    · exact ⟨_, _, e⟩
  have HEVF := hidP hevf
  have HEVV := hidP hevform
  have HEC := hidP hECA
  have hal : (allE p (p.last + 1)).length ≤ 72 := by have := allE_len p hp (p.last + 1); omega
  clear hQ hp he hw hca hmc hECA hevf hevform
  obtain ⟨i0, hi0, hz0, hz1, hz2⟩ := info_parts info3'
  obtain ⟨I, hI⟩ : ∃ I : Nat → Array Value → World → Prop, I = (fun k T2 wr => ∃ i, 1 ≤ i ∧ i + k = p.n + 1 ∧ Keeps 81 734 [58, 65, 66, 67, 68, 69, 70, 71, 72] T T2 ∧ T2[65]?.getD undef = .int .i64 i ∧ ∃ wv, T2[58]?.getD undef = wv ∧ Want B CA w0 wr wv (xs ++ wantsR p r (i - 1)) ∧ Row wr CA 78 36 m) := ⟨_, rfl⟩
  have HI := hidP hI
  clear hI
  refine wp_loop_n I ?_ p.n _ _ ?_
  · intro k T2 wr hIk
    rw [HI.out] at hIk
    obtain ⟨i, hi1, hik, hK, u65, wv, u58, hw, hca⟩ := hIk
    have hT : T2.size = 735 := hK.1.trans hT0
    have a2 := hK.at' hT 2 (by decide) t2 (by decide) (by decide)
    have a23 := hK.at' hT 23 (by decide) t23 (by decide) (by decide)
    have a25 := hK.at' hT 25 (by decide) t25 (by decide) (by decide)
    have a26 := hK.at' hT 26 (by decide) t26 (by decide) (by decide)
    have a28 := hK.at' hT 28 (by decide) t28 (by decide) (by decide)
    have a35 := hK.at' hT 35 (by decide) t35 (by decide) (by decide)
    have a43 := hK.at' hT 43 (by decide) t43 (by decide) (by decide)
    have a63 := hK.at' hT 63 (by decide) t63 (by decide) (by decide)
    have a58 : T2[58]'(by omega) = _ := at_of _ u58
    have a65 : T2[65]'(by omega) = _ := at_of _ u65
    have HK := hidP hK
    clear hK u58 u65
    have HW := hidP hw
    have HCA := hidP hca
    have HER := hidP (HE.out.only hw.2.2 ⟨_, hca⟩)
    clear hw hca
    go_upto_if 457 with fail
    refine wp_cond_at (decide (i ≤ p.n)) (by simp [Act.eval, hT]) (fun h => ?_) (fun h => ?_)
    · have hin : i ≤ p.n := of_decide_eq_true h
      clear h
      refine gen_frame (fun T2 => T2.size = 735 ∧ Keeps 81 734 [58, 65, 66, 67, 68, 69, 70, 71, 72] T T2 ∧ T2[58]?.getD undef = wv ∧ T2[65]?.getD undef = .int .i64 i) ⟨by simp [hT], ?_, by simp [hT, a2, a23, a25, a26, a28, a35, a43, a63, a58, a65], by simp [hT, a2, a23, a25, a26, a28, a35, a43, a63, a58, a65]⟩ ?_
      · repeat (refine Keeps.put ?_ _ _ (by first | exact .inr ⟨by decide, by decide⟩ | exact .inl (by decide)))
        exact HK.out
      clear a2 a23 a25 a26 a28 a35 a43 a63 a58 a65 HK hT
      clear T2
      rintro T2 ⟨hT, hK, u58, u65⟩
      have a2 := hK.at' hT 2 (by decide) t2 (by decide) (by decide)
      have a23 := hK.at' hT 23 (by decide) t23 (by decide) (by decide)
      have a25 := hK.at' hT 25 (by decide) t25 (by decide) (by decide)
      have a26 := hK.at' hT 26 (by decide) t26 (by decide) (by decide)
      have a28 := hK.at' hT 28 (by decide) t28 (by decide) (by decide)
      have a35 := hK.at' hT 35 (by decide) t35 (by decide) (by decide)
      have a43 := hK.at' hT 43 (by decide) t43 (by decide) (by decide)
      have a63 := hK.at' hT 63 (by decide) t63 (by decide) (by decide)
      have a58 : T2[58]'(by omega) = _ := at_of _ u58
      have a65 : T2[65]'(by omega) = _ := at_of _ u65
      have HK := hidP hK
      clear hK u58 u65
      obtain ⟨Dc, hD⟩ : ∃ Dc, Dc = compl (upTo p.n p.crA) i r := ⟨_, rfl⟩
      have h8 := ownCompletes B 23 i r (upTo p.n p.crA) wr HER.out.C (by omega)
      rw [← hD] at h8
      have H8 := hidP h8
      have HD := hidP hD
      clear h8 hD
      go_upto_if 464 with (go_at_call 8; refine H8.out.mono ?_; rintro e w2 ⟨rfl, hw2⟩; have hw3 := hw2.symm; clear hw2; subst hw3)
      have hxl := wantsR_len p HP.out r (i - 1)
      have hxl2 : (xs ++ wantsR p r (i - 1)).length ≤ 75000 := by rw [List.length_append]; omega
      have e1 : i - 1 + 1 = i := by omega
      have hss : wantsR p r (i + 1 - 1) = wantsR p r (i - 1) ++ (if Dc then evPart p r i ++ [(i : Int), (r : Int)] ++ okL p r i p.n else []) := by
        rw [show i + 1 - 1 = i - 1 + 1 by omega, wantsR_succ, e1, HD.out]
        rfl
      have HSS := hidP hss
      clear hss
      refine wp_cond_at (!Dc) (by simp [Act.eval, hT]) (fun h => ?_) (fun h => ?_)
      · have hd : Dc = false := by simpa using h
        clear h
        refine gen_frame (fun T2 => T2.size = 735 ∧ Keeps 81 734 [58, 65, 66, 67, 68, 69, 70, 71, 72] T T2 ∧ T2[58]?.getD undef = wv ∧ T2[65]?.getD undef = .int .i64 i) ⟨by simp [hT], ?_, by simp [hT, a2, a23, a25, a26, a28, a35, a43, a63, a58, a65], by simp [hT, a2, a23, a25, a26, a28, a35, a43, a63, a58, a65]⟩ ?_
        · repeat (refine Keeps.put ?_ _ _ (by first | exact .inr ⟨by decide, by decide⟩ | exact .inl (by decide)))
          exact HK.out
        clear a2 a23 a25 a26 a28 a35 a43 a63 a58 a65 HK hT
        clear T2
        rintro T2 ⟨hT, hK, u58, u65⟩
        have a2 := hK.at' hT 2 (by decide) t2 (by decide) (by decide)
        have a23 := hK.at' hT 23 (by decide) t23 (by decide) (by decide)
        have a25 := hK.at' hT 25 (by decide) t25 (by decide) (by decide)
        have a26 := hK.at' hT 26 (by decide) t26 (by decide) (by decide)
        have a28 := hK.at' hT 28 (by decide) t28 (by decide) (by decide)
        have a35 := hK.at' hT 35 (by decide) t35 (by decide) (by decide)
        have a43 := hK.at' hT 43 (by decide) t43 (by decide) (by decide)
        have a63 := hK.at' hT 63 (by decide) t63 (by decide) (by decide)
        have a58 : T2[58]'(by omega) = _ := at_of _ u58
        have a65 : T2[65]'(by omega) = _ := at_of _ u65
        have HK := hidP hK
        clear hK u58 u65
        go_wp2_with fail
        first | refine ⟨trivial, k - 1, by omega, ?_⟩ | refine ⟨k - 1, by omega, ?_⟩
        rw [HI.out]
        refine ⟨i + 1, by omega, by omega, ?_, by simp [hT], wv, by simp [hT, a58], ?_, HCA.out⟩
        · repeat (refine Keeps.put ?_ _ _ (by first | exact .inr ⟨by decide, by decide⟩ | exact .inl (by decide)))
          exact HK.out
        · rw [HSS.out, hd]
          simpa using HW.out
      · have hd : Dc = true := by simpa using h
        clear h
        refine gen_frame (fun T2 => T2.size = 735 ∧ Keeps 81 734 [58, 65, 66, 67, 68, 69, 70, 71, 72] T T2 ∧ T2[58]?.getD undef = wv ∧ T2[65]?.getD undef = .int .i64 i) ⟨by simp [hT], ?_, by simp [hT, a2, a23, a25, a26, a28, a35, a43, a63, a58, a65], by simp [hT, a2, a23, a25, a26, a28, a35, a43, a63, a58, a65]⟩ ?_
        · repeat (refine Keeps.put ?_ _ _ (by first | exact .inr ⟨by decide, by decide⟩ | exact .inl (by decide)))
          exact HK.out
        clear a2 a23 a25 a26 a28 a35 a43 a63 a58 a65 HK hT
        clear T2
        rintro T2 ⟨hT, hK, u58, u65⟩
        have a2 := hK.at' hT 2 (by decide) t2 (by decide) (by decide)
        have a23 := hK.at' hT 23 (by decide) t23 (by decide) (by decide)
        have a25 := hK.at' hT 25 (by decide) t25 (by decide) (by decide)
        have a26 := hK.at' hT 26 (by decide) t26 (by decide) (by decide)
        have a28 := hK.at' hT 28 (by decide) t28 (by decide) (by decide)
        have a35 := hK.at' hT 35 (by decide) t35 (by decide) (by decide)
        have a43 := hK.at' hT 43 (by decide) t43 (by decide) (by decide)
        have a63 := hK.at' hT 63 (by decide) t63 (by decide) (by decide)
        have a58 : T2[58]'(by omega) = _ := at_of _ u58
        have a65 : T2[65]'(by omega) = _ := at_of _ u65
        have HK := hidP hK
        clear hK u58 u65
        go_upto_if 465 with fail
        rename_i K465 hK465
        have HK465 := hidP hK465
        clear hK465
        have hevl := evPart_len p HP.out r i
        suffices merge : ∀ T2 w1 wv, (T2.size = 735 ∧ Keeps 81 734 [58, 65, 66, 67, 68, 69, 70, 71, 72] T T2 ∧ T2[58]?.getD undef = wv ∧ T2[65]?.getD undef = .int .i64 i) ∧ Want B CA w0 w1 wv (xs ++ wantsR p r (i - 1) ++ evPart p r i) ∧ Row w1 CA 78 36 m → K465 ⟨T2, []⟩ w1 by
          have MERGE := hidP merge
          clear merge
          cases hkeep : p.keep with
          | false =>
            refine wp_cond_at false (by simp [Act.eval, hT, hkeep]) (fun h => by cases h) (fun _ => ?_)
            go_wp2_with fail
            refine MERGE.out _ wr wv ⟨⟨by simp [hT], ?_, by simp [hT, a58], by simp [hT, a65]⟩, ?_, HCA.out⟩
            · repeat (refine Keeps.put ?_ _ _ (by first | exact .inr ⟨by decide, by decide⟩ | exact .inl (by decide)))
              exact HK.out
            · have : evPart p r i = [] := by unfold evPart; rw [hkeep]; rfl
              rw [this, List.append_nil]
              exact HW.out
          | true =>
            refine wp_cond_at true (by simp [Act.eval, hT, hkeep]) (fun _ => ?_) (fun h => by cases h)
            have hcl : (selE r i (allE p (p.last + 1))).length ≤ 72 := by
              unfold selE
              exact Nat.le_trans (List.length_filter_le _ _) hal
            obtain ⟨NL, hNL⟩ : ∃ NL, NL = (allE p (p.last + 1)).length := ⟨_, rfl⟩
            have a43' : T2[43]'(by omega) = .slice eva NL evc := by rw [a43, HEVV.out, hNL]
            clear a43
            have HNL := hidP hNL
            clear hNL
            go_upto_block 24 with fail
            have hks : ∀ x1 x2 x3 x4 x5, Keeps 81 734 [58, 65, 66, 67, 68, 69, 70, 71, 72] T (((((T2.setIfInBounds 465 x1).setIfInBounds 66 x2).setIfInBounds 466 x3).setIfInBounds 467 x4).setIfInBounds 468 x5) := fun x1 x2 x3 x4 x5 => by
              repeat (refine Keeps.put ?_ _ _ (by first | exact .inr ⟨by decide, by decide⟩ | exact .inl (by decide)))
              exact HK.out
            refine f3_24 r i B evE' evC' (allE p (p.last + 1)) (by omega) (.slice eva NL evc) wr (by rw [HNL.out, ← HEVV.out]; exact HEVF.out) (by rw [HNL.out, ← HEVV.out]; exact HER.out.ev) _ _ (by simp [hT]) (by simp [hT, a63]) (by simp [hT, a65]) (by simp [hT]) (by simp [hT, HNL.out]) (by simp [hT]) (by simp [hT]) ?_
            intro T3 w1 hK3 e66 ho1
            have hK4 : Keeps 81 734 [58, 65, 66, 67, 68, 69, 70, 71, 72] T T3 := Keeps.trans (hks _ _ _ _ _) (hK3.mono (fun i hi => by simp at hi; exact .inl (by simp; omega)) (by decide) (by decide))
            have hT3 : T3.size = 735 := hK4.1.trans hT0
            have b58 : T3[58]'(by omega) = wv := at_of _ (hK3.get (by simp [hT, a58]) (by decide) (by decide))
            have b65 : T3[65]'(by omega) = .int .i64 i := at_of _ (hK3.get (by simp [hT, a65]) (by decide) (by decide))
            have b63 := hK4.at' hT3 63 (by decide) t63 (by decide) (by decide)
            have b43 : T3[43]'(by omega) = .slice eva NL evc := by rw [hK4.at' hT3 43 (by decide) t43 (by decide) (by decide), HEVV.out, HNL.out]
            obtain ⟨cn, hcn⟩ : ∃ cn, cn = (selE r i (allE p (p.last + 1))).length := ⟨_, rfl⟩
            have b66 : T3[66]'(by omega) = .int .i64 cn := by rw [hcn]; exact at_of _ e66
            have HCN := hidP hcn
            rw [← hcn] at hcl
            have HW1 := hidP (HW.out.same ho1)
            have HCA1 := hidP (HCA.out.only ho1 (fun h => h))
            have HK4 := hidP hK4
            clear hK3 hK4 e66 ho1 hks hcn a2 a23 a25 a26 a28 a35 a63 a58 a43' a65 HK HW HCA
            have HW := HW1
            have HCA := HCA1
            obtain ⟨XL, hXL⟩ : ∃ XL : List Int, XL = xs ++ wantsR p r (i - 1) := ⟨_, rfl⟩
            have hwx := HW.out
            rw [← hXL] at hwx
            have hown := hwx.1
            have hlenX : XL.length ≤ 100000 := by rw [hXL]; omega
            obtain ⟨N, hN⟩ : ∃ N, N = XL.length := ⟨_, rfl⟩
            rw [← hN] at hown hlenX
            have HN := hidP hN
            have HXL := hidP hXL
            have HWX := hidP hwx
            have HOWN := hidP hown
            have hsz := HW.out.2.2.size
            have hBw : B ≤ w1.heap.size := Nat.le_trans hB0 hsz
            clear hN hown hXL hwx
            go_wp2_with (at_builtin; refine wpList_append_lies _ rfl _ _ 29 rfl B 3 i0 (.int .i64 0) 1 8 Yba.underlying29 hi0 hz0 hz1 hz2 rfl (by decide) wv N (intsV XL) (by simp [Act.eval, hT3]) (HOWN.out.alloc _) ⟨w1.heap.size, 0, none⟩ 3 3 (intsV [-4, (i : Int), (cn : Int)]) (by simp [Act.eval, hT3]) rfl (by exact World.news_of_block (heap_alloc_new w1 (.cells #[.int .i64 (-4), .int .i64 i, .int .i64 cn] 3))) (by simp [intsV, Value.oneCell']) (by decide) (by show _ ≤ 9223372036854775807; omega) (by omega) (by first | omega | (simp; omega)) (w1.heap.size + 1) (by simp) ?_)
            intro gg cp w2 hown1 hgrow hat hlt
            have hwant : Want B CA w0 w2 (.slice (some ⟨gg, 0, none⟩) (N + 3) cp) (xs ++ wantsR p r (i - 1) ++ [-4, (i : Int), (cn : Int)]) := by
              have := HWX.out.app (ys := [-4, (i : Int), (cn : Int)]) HN.out rfl hown1 hgrow (by rcases hat with h | h; exact .inl h; exact .inr (by omega))
              rwa [HXL.out] at this
            have HCW := hidP (Want.row HCA.out HWX.out hCAlt (grown_own HWX.out.1 (Only.refl.alloc _) (by rw [← HN.out]; exact hown1) hgrow))
            have HW' := hidP hwant
            clear hown1 hgrow hat hlt hwant
            obtain ⟨wv2, hwv2⟩ : ∃ wv2, wv2 = Value.slice (some ⟨gg, 0, none⟩) (N + 3) cp := ⟨_, rfl⟩
            go_upto_block 26 with fail
            have hWW := HW'.out
            rw [← hwv2] at hWW
            refine gen_frame (fun T3 => T3.size = 735 ∧ Keeps 81 734 [58, 65, 66, 67, 68, 69, 70, 71, 72] T T3 ∧ T3[58]?.getD undef = wv2 ∧ T3[65]?.getD undef = .int .i64 i ∧ T3[490]?.getD undef = .slice eva NL evc ∧ T3[491]?.getD undef = .int .i64 NL ∧ T3[492]?.getD undef = .int .i64 0) ⟨by simp [hT3], ?_, by simp [hT3, hwv2], by simp [hT3, b65], by simp [hT3], by simp [hT3], by simp [hT3]⟩ ?_
            · repeat (refine Keeps.put ?_ _ _ (by first | exact .inr ⟨by decide, by decide⟩ | exact .inl (by decide)))
              exact HK4.out
            rintro T4 ⟨hT4, hK5, s58, s65, s490, s491, s492⟩
            refine f3_26 r i B CA evE' evC' (allE p (p.last + 1)) (by omega) (fun e he => by obtain ⟨_, _, _, _, _, h⟩ := mem_allE he; exact (mem_evE h).2.2) (.slice eva NL evc) w0 hB0 hCAlt _ (by rw [List.length_append]; simp only [List.length_cons, List.length_nil]; omega) wv2 m w2 hWW HCW.out (by rw [HNL.out, ← HEVV.out]; exact HEVF.out) (by rw [HNL.out, ← HEVV.out]; exact HE.out.ev) (by rw [HNL.out, ← HEVV.out]; exact HEC.out) T4 _ hT4 (hK5.get t63 (by decide) (by decide)) s65 s490 (by rw [s491, HNL.out]) s58 s492 ?_
            intro T5 w3 wv3 hK6 e58 hw3 hca3
            have hK7 : Keeps 81 734 [58, 65, 66, 67, 68, 69, 70, 71, 72] T T5 := Keeps.trans hK5 (hK6.mono (fun i hi => by simp at hi; exact .inl (by simp; omega)) (by decide) (by decide))
            refine MERGE.out T5 w3 wv3 ⟨⟨hK7.1.trans hT0, hK7, e58, hK6.get s65 (by decide) (by decide)⟩, ?_, hca3⟩
            have e9 : xs ++ wantsR p r (i - 1) ++ evPart p r i = xs ++ wantsR p r (i - 1) ++ [-4, (i : Int), (cn : Int)] ++ (selE r i (allE p (p.last + 1))).flatMap Ev.code := by
              unfold evPart
              rw [hkeep, if_pos rfl, ← HCN.out, List.append_assoc (xs ++ wantsR p r (i - 1))]
            rw [e9]
            exact hw3
        clear a2 a23 a25 a26 a28 a35 a43 a63 a58 a65 HK hT HW HCA
        clear T2 wv
        rintro T2 w1 wv ⟨⟨hT, hK, u58, u65⟩, hw1, hca1⟩
        have a2 := hK.at' hT 2 (by decide) t2 (by decide) (by decide)
        have a23 := hK.at' hT 23 (by decide) t23 (by decide) (by decide)
        have a25 := hK.at' hT 25 (by decide) t25 (by decide) (by decide)
        have a26 := hK.at' hT 26 (by decide) t26 (by decide) (by decide)
        have a28 := hK.at' hT 28 (by decide) t28 (by decide) (by decide)
        have a35 := hK.at' hT 35 (by decide) t35 (by decide) (by decide)
        have a43 := hK.at' hT 43 (by decide) t43 (by decide) (by decide)
        have a63 := hK.at' hT 63 (by decide) t63 (by decide) (by decide)
        have a58 : T2[58]'(by omega) = _ := at_of _ u58
        have a65 : T2[65]'(by omega) = _ := at_of _ u65
        have HK := hidP hK
        clear hK u58 u65
        refine HK465.out _ _ ?_
        have HW := hidP hw1
        have HCA := hidP hca1
        have hxl3 : (xs ++ wantsR p r (i - 1) ++ evPart p r i).length ≤ 76000 := by rw [List.length_append]; omega
        clear hw1 hca1
        obtain ⟨XL, hXL⟩ : ∃ XL : List Int, XL = xs ++ wantsR p r (i - 1) ++ evPart p r i := ⟨_, rfl⟩
        have hwx := HW.out
        rw [← hXL] at hwx
        have hown := hwx.1
        have hlenX : XL.length ≤ 100000 := by rw [hXL]; omega
        obtain ⟨N, hN⟩ : ∃ N, N = XL.length := ⟨_, rfl⟩
        rw [← hN] at hown hlenX
        have HN := hidP hN
        have HXL := hidP hXL
        have HWX := hidP hwx
        have HOWN := hidP hown
        have hsz := HW.out.2.2.size
        have hBw : B ≤ w1.heap.size := Nat.le_trans hB0 hsz
        clear hN hown hXL hwx
        go_wp2_with (at_builtin; refine wpList_append_lies _ rfl _ _ 29 rfl B 3 i0 (.int .i64 0) 1 8 Yba.underlying29 hi0 hz0 hz1 hz2 rfl (by decide) wv N (intsV XL) (by simp [Act.eval, hT]) (HOWN.out.alloc _) ⟨w1.heap.size, 0, none⟩ 2 2 (intsV [(i : Int), (r : Int)]) (by simp [Act.eval, hT]) rfl (by exact World.news_of_block (heap_alloc_new w1 (.cells #[.int .i64 i, .int .i64 r] 3))) (by simp [intsV, Value.oneCell']) (by decide) (by show _ ≤ 9223372036854775807; omega) (by omega) (by first | omega | (simp; omega)) (w1.heap.size + 1) (by simp) ?_)
        intro gg cp w2 hown1 hgrow hat hlt
        have hwant : Want B CA w0 w2 (.slice (some ⟨gg, 0, none⟩) (N + 2) cp) (xs ++ wantsR p r (i - 1) ++ evPart p r i ++ [(i : Int), (r : Int)]) := by
          have := HWX.out.app (ys := [(i : Int), (r : Int)]) HN.out rfl hown1 hgrow (by rcases hat with h | h; exact .inl h; exact .inr (by omega))
          rwa [HXL.out] at this
        have HCW := hidP (Want.row HCA.out HWX.out hCAlt (grown_own HWX.out.1 (Only.refl.alloc _) (by rw [← HN.out]; exact hown1) hgrow))
        have HW' := hidP hwant
        clear hown1 hgrow hat hlt hwant
        obtain ⟨wv2, hwv2⟩ : ∃ wv2, wv2 = Value.slice (some ⟨gg, 0, none⟩) (N + 2) cp := ⟨_, rfl⟩
        go_upto_block 28 with fail
        have hWW := HW'.out
        rw [← hwv2] at hWW
        refine gen_frame (fun T3 => T3.size = 735 ∧ Keeps 81 734 [58, 65, 66, 67, 68, 69, 70, 71, 72] T T3 ∧ T3[58]?.getD undef = wv2 ∧ T3[65]?.getD undef = .int .i64 i ∧ T3[71]?.getD undef = .int .i64 1) ⟨by simp [hT], ?_, by simp [hT, hwv2], by simp [hT, a65], by simp [hT]⟩ ?_
        · repeat (refine Keeps.put ?_ _ _ (by first | exact .inr ⟨by decide, by decide⟩ | exact .inl (by decide)))
          exact HK.out
        rintro T4 ⟨hT4, hK5, s58, s65, s71⟩
        refine f3_28 p HP.out B CA SB evv w0 HE.out hB0 r i hr1 hr hi1 (by omega) _ (by rw [List.length_append]; simp only [List.length_cons, List.length_nil]; omega) wv2 m w2 hWW HCW.out T4 _ hT4 (hK5.get t23 (by decide) (by decide)) (hK5.get t25 (by decide) (by decide)) (hK5.get t26 (by decide) (by decide)) (hK5.get t28 (by decide) (by decide)) (hK5.get t35 (by decide) (by decide)) (hK5.get t63 (by decide) (by decide)) s65 s58 s71 ?_
        intro T5 w3 wv3 hK6 e58 hw3 hca3
        have hK7 : Keeps 81 734 [58, 65, 66, 67, 68, 69, 70, 71, 72] T T5 := Keeps.trans hK5 (hK6.mono (fun i hi => by simp at hi; exact .inl (by simp; omega)) (by decide) (by decide))
        have hT5 : T5.size = 735 := hK7.1.trans hT0
        have d58 : T5[58]'(by omega) = wv3 := at_of _ e58
        have d65 : T5[65]'(by omega) = .int .i64 i := at_of _ (hK6.get s65 (by decide) (by decide))
        have HK7 := hidP hK7
        have HW3 := hidP hw3
        have HCA3 := hidP hca3
        clear hK5 hK6 hK7 hw3 hca3 e58 s58 s65 s71 hWW
        go_wp2_with fail
        first | refine ⟨trivial, k - 1, by omega, ?_⟩ | refine ⟨k - 1, by omega, ?_⟩
        rw [HI.out]
        refine ⟨i + 1, by omega, by omega, ?_, by simp [hT5], wv3, by simp [hT5, d58], ?_, HCA3.out⟩
        · repeat (refine Keeps.put ?_ _ _ (by first | exact .inr ⟨by decide, by decide⟩ | exact .inl (by decide)))
          exact HK7.out
        · rw [HSS.out, hd]
          simpa [List.append_assoc] using HW3.out
    · have hin : i - 1 = p.n := by have := of_decide_eq_false h; omega
      clear h
      go_wp2_with fail
      have hw := HW.out
      rw [hin] at hw
      refine HQ.out _ _ wv ?_ (by simp [hT, a58]) hw HCA.out
      repeat (refine Keeps.put ?_ _ _ (by first | exact .inr ⟨by decide, by decide⟩ | exact .inl (by decide)))
      exact HK.out
  · rw [HI.out]
    refine ⟨1, by omega, by omega, Keeps.refl, t65, v, t58, ?_, HW0.out.2⟩
    simpa [wantsR] using HW0.out.1
end Go.Proofs.Ybulkcawy
