/-
  playFrom's loop over the rounds.
-/
import Derived.Test.YbulkcawyPlay4
namespace Go.Proofs.Ybulkcawy
open Go.RowKit
set_option linter.unusedSimpArgs false
set_option linter.unusedVariables false
set_option maxRecDepth 100000
set_option maxHeartbeats 4000000

theorem yR_le (cr : Nat → Nat) (n k : Nat) : yR cr n k ≤ n * k := by
  induction k with
  | zero => simp [yR]
  | succ k ih =>
    have := cntC_le cr (k + 1) n
    rw [yR, Nat.mul_succ]
    omega
theorem headL_len (c : Cfg) (r : Nat) : (headL c r).length = 2 + c.n := by simp [headL]; omega

theorem cmAt_end (c : Cfg) (p : Par) (hn : 1 ≤ c.n) (h : 1 ≤ c.last → stopR c p c.last = none) : cmAt c (c.last + 1) 0 = cmAt c c.last ((stopR c p c.last).getD c.n) := by
  by_cases h0 : 1 ≤ c.last
  · rw [h h0, ← cmAt_next c hn]
    rfl
  · funext x
    unfold cmAt
    generalize x / c.n = z
    rw [if_neg (by omega), if_neg (by omega)]

theorem outM_congr (cr : Nat → Nat) (dt dt' : Nat → Option Nat) (n j : Nat) (hj : j < n * 5) (h : ∀ q, 1 ≤ q ∧ q ≤ n → dt q = dt' q) : outM cr dt j = outM cr dt' j := by
  unfold outM
  rw [h (j / 5 + 1) ⟨by omega, by omega⟩]

theorem play2 (c : Cfg) (role : Nat → Nat) (p : Par) (hl : Lay c role p) (w : World) (hf : Fixed c role p w) (ms ib : Nat → Option Int) (g : Option Nat) (evs : List Ev) (hm : Mov c role p w (fun _ => 0) ms ib (dtAt c 0) [] g evs (cmAt c 1 0) 0)
    (hms : ∀ q, 1 ≤ q → q ≤ c.n → ms q = sentAt c.cr 1 q) (hevs : 1 ≤ c.last → evs = evAt c p 1 1) (T : Array Value) (Q : Exit → Act → World → Prop) (hT0 : T.size = 153)
    (t0 : T[0]?.getD undef = .pointer (some ⟨c.PL, 0, none⟩)) (t5 : T[5]?.getD undef = .int .i64 c.n) (t6 : T[6]?.getD undef = .pointer (some ⟨p.F, 0, none⟩)) (t7 : T[7]?.getD undef = .slice (some ⟨c.SE, 0, none⟩) (c.n + 1) (c.n + 1)) (t8 : T[8]?.getD undef = .slice (some ⟨c.IN, 0, none⟩) c.n c.n) (t9 : T[9]?.getD undef = .pointer (some ⟨p.X, 0, none⟩)) (t10 : T[10]?.getD undef = .int .i64 1)
    (hQ : ∀ T' w' g' got' ms' ib' evs' y', Keeps 10 152 [] T T' → Mov c role p w' got' ms' ib' (dtAt c (endR c p c.last 1)) (runL c p c.last 1) g' evs' (cmAt c (endR c p c.last 1) ((stopR c p (endR c p c.last 1)).getD c.n)) y' → Only (Touch c role) w w' → Q .normal ⟨T', []⟩ w') : (blkOf Yba.f15 2).wp Yba.prog Q ⟨T, []⟩ w := by
  conv in (blkOf Yba.f15 2) => whnf
  refine wp_block ?_
  have HQ := hidP hQ
  have HL := hidP hl
  have HF := hidP hf
  have HM := hidP hm
  have HMS0 := hidP hms
  have HEV0 := hidP hevs
  have hsm := hl.ap.small
  have hsm' := hl.ap.small'
  have hnn := hl.n1
  clear hQ hl hf hm hms hevs
  obtain ⟨I, hI⟩ : ∃ I : Nat → Array Value → World → Prop, I = (fun k T2 wr => ∃ r, 1 ≤ r ∧ r + k = c.last + 1 ∧ Keeps 10 152 [] T T2 ∧ T2[10]?.getD undef = .int .i64 r ∧ ∃ got ms ib1 xs1 g1 evs1, Mov c role p wr got ms ib1 (dtAt c (r - 1)) xs1 g1 evs1 (cmAt c r 0) (yR c.cr c.n (r - 1)) ∧
    (r ≤ c.last → ∀ q, 1 ≤ q → q ≤ c.n → ms q = sentAt c.cr r q) ∧ (r ≤ c.last → evs1 = evAt c p r 1) ∧ (∀ q, 1 ≤ q → q ≤ c.n → compl c.cr q (r - 1) = true → got q = r - 1) ∧ (∀ q, got q ≤ r - 1) ∧ xs1 ++ runL c p (c.last + 1 - r) r = runL c p c.last 1 ∧ endR c p (c.last + 1 - r) r = endR c p c.last 1 ∧ xs1.length ≤ 300 * (r - 1) ∧ (2 ≤ r → stopR c p (r - 1) = none) ∧ NewG w g g1 ∧ Only (Touch c role) w wr) := ⟨_, rfl⟩
  have HI := hidP hI
  clear hI
  refine wp_loop_n I ?_ c.last _ _ ?_
  · intro k T2 wr hIk
    rw [HI.out] at hIk
    obtain ⟨r, hr1, hrk, hK, u10, got, ms, ib1, xs1, g1, evs1, hm1, hms, hev1, hgc, hg, hrun, hend, hxl, hnst, hn1, ho1⟩ := hIk
    have hT : T2.size = 153 := hK.1.trans hT0
    have a6 := hK.at' hT 6 (by decide) t6 (by decide) (by decide)
    have a10 : T2[10]'(by omega) = _ := at_of _ u10
    have hfr : Fixed c role p wr := HF.out.only HL.out ho1 (fun b _ e => e)
    have f0 : wr.cell? ⟨p.F, 0, none⟩ = some (.int .i64 c.last) := hfr.f.cell 0 (by omega)
    have HK := hidP hK
    have HM1 := hidP hm1
    have HMS := hidP hms
    have HEV := hidP hev1
    have HGC := hidP hgc
    have HG := hidP hg
    have HRUN := hidP hrun
    have HEND := hidP hend
    have HNST := hidP hnst
    have HN1 := hidP hn1
    have HO1 := hidP ho1
    have HFR := hidP hfr
    clear hK u10 hm1 hms hev1 hgc hg hrun hend hnst hn1 ho1 hfr
    go_upto_if 52 with fail
    refine wp_cond_at (decide (r ≤ c.last)) (by simp [Act.eval, hT]) (fun h => ?_) (fun h => ?_)
    · have hrl : r ≤ c.last := of_decide_eq_true h
      clear h
      refine gen_frame (fun U => U.size = 153 ∧ Keeps 10 152 [] T U ∧ U[10]?.getD undef = .int .i64 r) ⟨by simp [hT], ?_, by simp [hT, a10]⟩ ?_
      · repeat (refine Keeps.put ?_ _ _ (by first | exact .inr ⟨by decide, by decide⟩ | exact .inl (by decide)))
        exact HK.out
      rintro U ⟨hU, hKU, u10⟩
      have b0 := hKU.at' hU 0 (by decide) t0 (by decide) (by decide)
      have b7 := hKU.at' hU 7 (by decide) t7 (by decide) (by decide)
      have b10 : U[10]'(by omega) = _ := at_of _ u10
      have HKU := hidP hKU
      have hne := funcNe57
      have cME : wr.cell? ⟨c.PL, 18, none⟩ = some (.func (.func 12) #[] #[.pointer (some ⟨c.L, 0, none⟩)]) := (HFR.out.st.pl.cell 18 (by omega)).trans (by rw [← HL.out.me]; rfl)
      clear hKU u10 a6 a10 hT f0 HK
      go_upto_if 59 with fail
      refine wp_cond_at true (by simp [Act.eval, hU]) (fun _ => ?_) (fun h => by cases h)
      refine gen_frame (fun U => U.size = 153 ∧ Keeps 10 152 [] T U ∧ U[10]?.getD undef = .int .i64 r) ⟨by simp [hU], ?_, by simp [hU, b10]⟩ ?_
      · repeat (refine Keeps.put ?_ _ _ (by first | exact .inr ⟨by decide, by decide⟩ | exact .inl (by decide)))
        exact HKU.out
      clear b0 b7 b10 HKU hU
      clear U
      rintro U ⟨hU, hKU, u10⟩
      have b0 := hKU.at' hU 0 (by decide) t0 (by decide) (by decide)
      have b7 := hKU.at' hU 7 (by decide) t7 (by decide) (by decide)
      have b10 : U[10]'(by omega) = _ := at_of _ u10
      have HKU := hidP hKU
      clear hKU u10 hne
      go_upto_block 4 with (go_at_call 12; refine (meter c.L c.base xs1 g1 wr HL.out.ap.blog HFR.out.st.bs HM1.out.lg (by omega) r c.SE c.n ms (by omega) (by omega) HM1.out.se HL.out.ap.bse (HL.out.ap.ne HL.out.ap.se HL.out.ap.log (by decide))).mono ?_; rintro e w3 ⟨rfl, g3, m1, m2, m3⟩)
      have hl := HL.out
      have hxh : xs1 ++ [-2, (r : Int)] ++ (List.range c.n).map (fun k => codeOf (ms (k + 1))) = xs1 ++ headL c r := by
        rw [List.append_assoc]
        congr 1
        unfold headL
        congr 1
        refine List.map_congr_left fun k hk => ?_
        rw [HMS.out hrl (k + 1) (by omega) (by have := List.mem_range.1 hk; omega)]
      rw [hxh] at m1
      have hm3 := HM1.out.log hl m3 m2 m1
      rw [HEV.out hrl] at hm3
      have hf3 := HFR.out.only hl m3 (fun b _ e => touch_log HM1.out.lg hl b e)
      have ho3 : Only (Touch c role) w w3 := HO1.out.trans' m3 (fun b _ e => touch_log HM1.out.lg hl b e)
      have hn3 : NewG w g g3 := HN1.out.trans m2 HO1.out.size
      have hlen3 : (xs1 ++ headL c r).length ≤ 600000 := by rw [List.length_append, headL_len]; omega
      have hks : ∀ v1 v2 v3 v4 v5 v6 v7 v8, Keeps 10 152 [] T (((((((((U.setIfInBounds 60 v1).setIfInBounds 61 v2).setIfInBounds 62 v3).setIfInBounds 63 v4).setIfInBounds 64 v5).setIfInBounds 65 v6).setIfInBounds 66 v7).setIfInBounds 11 v8)) := fun v1 v2 v3 v4 v5 v6 v7 v8 => by
        repeat (refine Keeps.put ?_ _ _ (by first | exact .inr ⟨by decide, by decide⟩ | exact .inl (by decide)))
        exact HKU.out
      have hgb : ∀ q, got q ≤ 900 := fun q => by have := HG.out q; omega
      refine play4 c role p hl r hr1 hrl w3 hf3 got ms ib1 (dtAt c (r - 1)) (xs1 ++ headL c r) g3 (cmAt c r 0) (yR c.cr c.n (r - 1)) hm3 (HMS.out hrl) hgb (by omega) _ _ (by simp [hU]) ((hks _ _ _ _ _ _ _ _).get t0 (by decide) (by decide)) ((hks _ _ _ _ _ _ _ _).get t5 (by decide) (by decide)) ((hks _ _ _ _ _ _ _ _).get t6 (by decide) (by decide)) ((hks _ _ _ _ _ _ _ _).get t7 (by decide) (by decide)) ((hks _ _ _ _ _ _ _ _).get t8 (by decide) (by decide)) ((hks _ _ _ _ _ _ _ _).get t9 (by decide) (by decide)) (by simp [hU, b10]) (by simp [hU]) ?_
      intro V4 w4 g4 ib4 hK4 hm4 hn4 ho4
      have hK4' : Keeps 10 152 [] T V4 := Keeps.trans (hks _ _ _ _ _ _ _ _) (hK4.mono (fun i hi => by simp at hi; exact .inr (by omega)) (by decide) (by decide))
      have hV4 : V4.size = 153 := hK4'.1.trans hT0
      have q10 : V4[10]?.getD undef = .int .i64 r := hK4.get (by simp [hU, b10]) (by decide) (by decide)
      have d10 : V4[10]'(by omega) = _ := at_of _ q10
      have d0 := hK4'.at' hV4 0 (by decide) t0 (by decide) (by decide)
      have hgn : ∀ q, 1 ≤ q → q ≤ c.n → compl c.cr q r = true → gotR c got r c.n q = r := fun q h2 h1 hq => by
        unfold gotR
        rw [if_pos ⟨h2, h1, hq⟩, HGC.out q h2 h1 (compl_mono hq (by omega))]
        omega
      have HF4 := hidP (hf3.only hl ho4 (fun b _ e => e))
      have HM4 := hidP hm4
      have HO4 := hidP (ho3.trans ho4)
      have HN4 := hidP (hn3.trans hn4 ho3.size)
      have HK4 := hidP hK4'
      have HGN0 := hidP hgn
      clear hK4 hK4' hm4 hn4 ho4 hm3 hf3 ho3 hn3 m1 m2 m3 hxh hks hgn hl q10 b0 b7 b10 HKU cME
      go_upto_region 25 with (go_at_call 27; refine (decideC c role HL.out.ap r (by omega) (gotR c got r c.n) (dtAt c (r - 1)) w4 HF4.out.st HM4.out.pr HM4.out.ou).mono ?_; rintro e w5 ⟨rfl, m1, m2⟩)
      have hl := HL.out
      have hou5 : Row w5 c.OU 71 (c.n * 5) (outM c.cr (dtAt c r)) := m1.ext fun j hj => outM_congr _ _ _ c.n j hj (fun q hq => dtAt_step c r hr1 (gotR c got r c.n) HGN0.out q hq)
      have HM5 := hidP (HM4.out.outs hl m2 hou5)
      have HF5 := hidP (HF4.out.only hl m2 (fun b _ e => by rw [e]; exact touch_ou hl))
      have HO5 := hidP (HO4.out.trans' m2 (fun b _ e => by rw [e]; exact touch_ou hl))
      have c14 : w5.cell? ⟨c.PL, 14, none⟩ = some c.kp := HF5.out.st.pl.cell 14 (by omega)
      have hyb : yR c.cr c.n (r - 1) ≤ 900 := by
        have h1 := yR_le c.cr c.n (r - 1)
        have h2 : c.n * (r - 1) ≤ 6 * 100 := Nat.mul_le_mul (by omega) (by omega)
        omega
      have hlen5 : (xs1 ++ headL c r ++ recvsL c p r c.n).length + 54 ≤ 300 * r := by
        have := recvsL_len c role p hl r c.n
        rw [List.length_append, List.length_append, headL_len]
        omega
      have hgn5 : ∀ q, (gotR c got r c.n) q ≤ 1000 := fun q => by have := gotR_le c got r c.n q; have := HG.out q; omega
      refine gen_frame (fun V => V.size = 153 ∧ Keeps 10 152 [] T V ∧ V[10]?.getD undef = .int .i64 r) ⟨by simp [hV4], ?_, by simp [hV4, d10]⟩ ?_
      · repeat (refine Keeps.put ?_ _ _ (by first | exact .inr ⟨by decide, by decide⟩ | exact .inl (by decide)))
        exact HK4.out
      rintro V5 ⟨hV5, hK5, v10⟩
      have v0 := hK5.get t0 (by decide) (by decide)
      have HK5 := hidP hK5
      clear m1 m2 hou5 hK5 d0 d10 HK4
      cases hkeep : p.keep with
      | true =>
        have hk := hl.kept hkeep
        have hgn := hgn5
        have hlen5' := hlen5
        have cKP : w5.cell? ⟨c.PL, 14, none⟩ = some (.slice (some ⟨p.KP, 0, none⟩) (c.n + 1) (c.n + 1)) := by rw [← hk.ekp]; exact c14
        have hlen5 : (xs1 ++ headL c r ++ recvsL c p r c.n).length ≤ 800000 := by omega
        refine region_plainW _ 153 hV5 [.pointer (some ⟨c.PL, 0, none⟩), .pointer (some ⟨c.PL, 0, none⟩), .pointer (some ⟨c.PL, 14, none⟩), .slice (some ⟨p.KP, 0, none⟩) (c.n + 1) (c.n + 1), .bool true, .bool true, .pointer (some ⟨c.PL, 0, none⟩), .int .i64 r, .bool ((stopK c.cr r (yR c.cr c.n (r - 1)) p.s c.n).isNone), .bool (!(stopK c.cr r (yR c.cr c.n (r - 1)) p.s c.n).isNone), .bool (!(stopK c.cr r (yR c.cr c.n (r - 1)) p.s c.n).isNone)] (fun i w1 => if i ≤ 8 then w1 = w5 else (∃ g6, Mov c role p w1 (gotR c got r c.n) ms ib4 (dtAt c r) (xs1 ++ headL c r ++ recvsL c p r c.n ++ coresL c.cr (gotR c got r c.n) r ((stopK c.cr r (yR c.cr c.n (r - 1)) p.s c.n).getD c.n)) g6 (evAt c p r (c.n + 1)) (coreU c (gotR c got r c.n) r ((stopK c.cr r (yR c.cr c.n (r - 1)) p.s c.n).getD c.n) (cmAt c r 0)) (yR c.cr c.n (r - 1) + cntC c.cr r ((stopK c.cr r (yR c.cr c.n (r - 1)) p.s c.n).getD c.n)) ∧ NewG w5 g4 g6 ∧ Only (Touch c role) w5 w1)) w5 rfl (by decide) (by decide) ?_ ?_
        · intro i hi U w1 hSt hU hK hprev
          have hi' : i < 11 := hi
          rcases (by omega : i = 0 ∨ i = 1 ∨ i = 2 ∨ i = 3 ∨ i = 4 ∨ i = 5 ∨ i = 6 ∨ i = 7 ∨ i = 8 ∨ i = 9 ∨ i = 10) with rfl | rfl | rfl | rfl | rfl | rfl | rfl | rfl | rfl | rfl | rfl
          · have hw1 : w1 = w5 := hSt
            subst hw1
            have hx0 : U[0]?.getD undef = .pointer (some ⟨c.PL, 0, none⟩) := kept_of hK 0 (by decide) (by assumption)
            refine .inl ⟨want_none rfl, ?_⟩
            refine step_of_run (v := .pointer (some ⟨c.PL, 0, none⟩)) (w' := _) ?_ ⟨rfl, _, rfl, (fun h => by cases h), rfl⟩
            simp [execOp, go_sem, hx0, cKP]
          · have hw1 : w1 = w5 := hSt
            subst hw1
            have d0 : U[130]?.getD undef = .pointer (some ⟨c.PL, 0, none⟩) := slot_of (hprev 0 (by decide)) rfl
            refine .inl ⟨want_none rfl, ?_⟩
            refine step_of_run (v := .pointer (some ⟨c.PL, 0, none⟩)) (w' := _) ?_ ⟨rfl, _, rfl, (fun h => by cases h), rfl⟩
            simp [execOp, go_sem, d0, cKP]
          · have hw1 : w1 = w5 := hSt
            subst hw1
            have d1 : U[131]?.getD undef = .pointer (some ⟨c.PL, 0, none⟩) := slot_of (hprev 1 (by decide)) rfl
            refine .inl ⟨want_none rfl, ?_⟩
            refine step_of_run (v := .pointer (some ⟨c.PL, 14, none⟩)) (w' := _) ?_ ⟨rfl, _, rfl, (fun h => by cases h), rfl⟩
            simp [execOp, go_sem, d1, cKP]
          · have hw1 : w1 = w5 := hSt
            subst hw1
            have d2 : U[132]?.getD undef = .pointer (some ⟨c.PL, 14, none⟩) := slot_of (hprev 2 (by decide)) rfl
            refine .inl ⟨want_none rfl, ?_⟩
            refine step_of_run (v := .slice (some ⟨p.KP, 0, none⟩) (c.n + 1) (c.n + 1)) (w' := _) ?_ ⟨rfl, _, rfl, (fun h => by cases h), rfl⟩
            simp [execOp, go_sem, d2, cKP]
          · have hw1 : w1 = w5 := hSt
            subst hw1
            have d3 : U[133]?.getD undef = .slice (some ⟨p.KP, 0, none⟩) (c.n + 1) (c.n + 1) := slot_of (hprev 3 (by decide)) rfl
            refine .inl ⟨want_none rfl, ?_⟩
            refine step_of_run (v := .bool true) (w' := _) ?_ ⟨rfl, _, rfl, (fun h => by cases h), rfl⟩
            simp [execOp, go_sem, d3, cKP]
          · have hw1 : w1 = w5 := hSt
            subst hw1
            have d4 : U[134]?.getD undef = .bool true := slot_of (hprev 4 (by decide)) rfl
            refine .inl ⟨want_none rfl, ?_⟩
            refine step_of_run (v := .bool true) (w' := _) ?_ ⟨rfl, _, rfl, (fun h => by cases h), rfl⟩
            simp [execOp, go_sem, d4, cKP]
          · have hw1 : w1 = w5 := hSt
            subst hw1
            have hx0 : U[0]?.getD undef = .pointer (some ⟨c.PL, 0, none⟩) := kept_of hK 0 (by decide) (by assumption)
            refine .inl ⟨want_of (d := 135) rfl rfl (by omega) (slot_of (hprev 5 (by decide)) rfl), ?_⟩
            refine step_of_run (v := .pointer (some ⟨c.PL, 0, none⟩)) (w' := _) ?_ ⟨rfl, _, rfl, (fun h => by cases h), rfl⟩
            simp [execOp, go_sem, hx0, cKP]
          · have hw1 : w1 = w5 := hSt
            subst hw1
            have hx10 : U[10]?.getD undef = .int .i64 r := kept_of hK 10 (by decide) (by assumption)
            refine .inl ⟨want_of (d := 135) rfl rfl (by omega) (slot_of (hprev 5 (by decide)) rfl), ?_⟩
            refine step_of_run (v := .int .i64 r) (w' := _) ?_ ⟨rfl, _, rfl, (fun h => by cases h), rfl⟩
            simp [execOp, go_sem, hx10, cKP]
          · have hw1 : w1 = w5 := hSt
            subst hw1
            have d6 : U[136]?.getD undef = .pointer (some ⟨c.PL, 0, none⟩) := slot_of (hprev 6 (by decide)) rfl
            have d7 : U[137]?.getD undef = .int .i64 r := slot_of (hprev 7 (by decide)) rfl
            refine .inl ⟨want_of (d := 135) rfl rfl (by omega) (slot_of (hprev 5 (by decide)) rfl), ?_⟩
            refine step_of_call (f := 28) (args := #[.pointer (some ⟨c.PL, 0, none⟩), .int .i64 r]) (w' := w1) ?_ ((takeCores c role hl.ap p.KP p.CO p.Y p.S hk r hr1 hrl (gotR c got r c.n) hgn (yR c.cr c.n (r - 1)) p.s hyb hl.sb (cmAt c r 0) (xs1 ++ headL c r ++ recvsL c p r c.n) g4 w1 HF5.out.st HM5.out.pr (HF5.out.kp hkeep) (HM5.out.co hkeep) (HM5.out.yy hkeep) (HF5.out.s hkeep) HM5.out.lg hlen5).mono ?_)
            · simp [execOp, go_sem, d6, d7]
            · rintro e w9 ⟨rfl, g6, m1, m2, m3, m4, m5⟩
              exact ⟨_, rfl, ⟨g6, HM5.out.cores hl hkeep m5 m2 m1 m3 m4, m2, m5.mono (fun b _ e => by
                rcases e with e | e | e
                · exact touch_log HM5.out.lg hl b e
                · rw [e]; exact touch_co hl hkeep
                · rw [e]; exact touch_y hl hkeep)⟩, _, rfl, (fun h => by cases h), rfl⟩
          · have d8 : U[138]?.getD undef = .bool ((stopK c.cr r (yR c.cr c.n (r - 1)) p.s c.n).isNone) := slot_of (hprev 8 (by decide)) rfl
            refine .inl ⟨want_of (d := 135) rfl rfl (by omega) (slot_of (hprev 5 (by decide)) rfl), ?_⟩
            refine step_of_run (v := .bool (!(stopK c.cr r (yR c.cr c.n (r - 1)) p.s c.n).isNone)) (w' := _) ?_ ⟨hSt, _, rfl, (fun h => by cases h), rfl⟩
            simp [execOp, go_sem, d8, cKP]
          · have d5 : U[135]?.getD undef = .bool true := slot_of (hprev 5 (by decide)) rfl
            have d9 : U[139]?.getD undef = .bool (!(stopK c.cr r (yR c.cr c.n (r - 1)) p.s c.n).isNone) := slot_of (hprev 9 (by decide)) rfl
            refine .inl ⟨want_none rfl, ?_⟩
            refine step_of_run (v := .bool (!(stopK c.cr r (yR c.cr c.n (r - 1)) p.s c.n).isNone)) (w' := _) ?_ ⟨hSt, _, rfl, (fun h => by cases h), rfl⟩
            simp [execOp, go_sem, d5, d9, cKP]
        · intro V6 w6 hSt hV6 hKV hall
          obtain ⟨g6, hm6, hn6, ho6⟩ : (∃ g6, Mov c role p w6 (gotR c got r c.n) ms ib4 (dtAt c r) (xs1 ++ headL c r ++ recvsL c p r c.n ++ coresL c.cr (gotR c got r c.n) r ((stopK c.cr r (yR c.cr c.n (r - 1)) p.s c.n).getD c.n)) g6 (evAt c p r (c.n + 1)) (coreU c (gotR c got r c.n) r ((stopK c.cr r (yR c.cr c.n (r - 1)) p.s c.n).getD c.n) (cmAt c r 0)) (yR c.cr c.n (r - 1) + cntC c.cr r ((stopK c.cr r (yR c.cr c.n (r - 1)) p.s c.n).getD c.n)) ∧ NewG w5 g4 g6 ∧ Only (Touch c role) w5 w6) := hSt
          have hK6 := (Keeps.trans HK5.out (Kept.keeps (lo := 10) (hi := 152) (vs := []) hKV (hV6.trans hV5.symm) (by decide)))
          have b140 : V6[140]?.getD undef = .bool (!(stopK c.cr r (yR c.cr c.n (r - 1)) p.s c.n).isNone) := slot_of (hall 10 (by decide)) rfl
          have d10 : V6[10]'(by omega) = .int .i64 r := at_of _ (kept_of hKV 10 (by decide) v10)
          have d0 := hK6.at' hV6 0 (by decide) t0 (by decide) (by decide)
          have d6 := hK6.at' hV6 6 (by decide) t6 (by decide) (by decide)
          have hsr : stopR c p r = stopK c.cr r (yR c.cr c.n (r - 1)) p.s c.n := by unfold stopR; rw [hkeep]; rfl
          have hkk : (stopR c p r).getD c.n ≤ c.n := by
            rw [hsr]
            cases hs : stopK c.cr r (yR c.cr c.n (r - 1)) p.s c.n with
            | none => exact Nat.le_refl _
            | some j => exact (stopK_le _ _ _ _ hs).2
          rw [← hsr] at hm6
          rw [← hsr] at b140
          have hcl : coresL c.cr (gotR c got r c.n) r ((stopR c p r).getD c.n) = coreLr c p r := by
            unfold coreLr
            rw [hkeep]
            exact coresL_got c.cr (gotR c got r c.n) r c.n _ hkk HGN0.out
          rw [hcl, coreU_cmAt c hnn r hr1 (gotR c got r c.n) HGN0.out _ hkk] at hm6
          have HF6 := hidP (HF5.out.only hl ho6 (fun b _ e => e))
          have HO6 := hidP (HO5.out.trans ho6)
          have HN6 := hidP (HN4.out.trans hn6 (by have := HO5.out.size; omega))
          have hcll : (coreLr c p r).length ≤ 36 := by
            rw [← hcl]
            have := coresL_len c.cr (gotR c got r c.n) r ((stopR c p r).getD c.n)
            omega
          have HK6 := hidP hK6
          have HSR := hidP hsr
          clear hall hKV hn6 ho6 hK6 hsr hcl v0 v10 cKP c14
          go_upto_if 140 with fail
          refine wp_cond_at (!(stopR c p r).isNone) (by simpa [Act.eval] using b140) (fun hc => ?_) (fun hc => ?_)
          · have hsome : (stopR c p r).isSome = true := by
              cases hs : stopR c p r with
              | none => rw [hs] at hc; cases hc
              | some j => rfl
            have HSO := hidP hsome
            have HM6 := hidP hm6
            clear hm6 hc hsome b140
            go_wp2_with fail
            have hsome := HSO.out
            have hrun := HRUN.out
            have hend := HEND.out
            rw [show c.last + 1 - r = (c.last + 1 - (r + 1)) + 1 by omega, runL, hsome] at hrun
            rw [show c.last + 1 - r = (c.last + 1 - (r + 1)) + 1 by omega, endR, hsome] at hend
            simp only [if_true, List.append_nil] at hrun hend
            have hm6 := HM6.out
            rw [List.append_assoc, List.append_assoc, ← List.append_assoc (headL c r), hrun] at hm6
            refine HQ.out _ _ g6 _ _ _ _ _ ?_ (by rw [← hend]; exact hm6) HO6.out
            repeat (refine Keeps.put ?_ _ _ (by first | exact .inr ⟨by decide, by decide⟩ | exact .inl (by decide)))
            exact HK6.out
          · have hsn : stopR c p r = none := by
              cases hs : stopR c p r with
              | none => rfl
              | some j => rw [hs] at hc; cases hc
            have hstop : (stopR c p r).isSome = false := by rw [hsn]; rfl
            have hm6' : Mov c role p w6 (gotR c got r c.n) ms ib4 (dtAt c r) (xs1 ++ headL c r ++ recvsL c p r c.n ++ coreLr c p r) g6 (evAt c p r (c.n + 1)) (cmAt c (r + 1) 0) (yR c.cr c.n r) := by
              have h1 := hm6
              rw [hsn] at h1
              have e1 : cmAt c r ((none : Option Nat).getD c.n) = cmAt c (r + 1) 0 := cmAt_next c hnn r
              have e2 : yR c.cr c.n (r - 1) + cntC c.cr r ((none : Option Nat).getD c.n) = yR c.cr c.n r := by
                have : yR c.cr c.n (r - 1 + 1) = yR c.cr c.n (r - 1) + cntC c.cr (r - 1 + 1) c.n := rfl
                rw [show r - 1 + 1 = r by omega] at this
                exact this.symm
              rw [e1, e2] at h1
              exact h1
            have HM6 := hidP hm6'
            have HLX : Hid ((xs1 ++ headL c r ++ recvsL c p r c.n ++ coreLr c p r).length ≤ 800000) := hidP (by rw [List.length_append]; omega)
            have HLX2 : Hid ((xs1 ++ headL c r ++ recvsL c p r c.n ++ coreLr c p r).length + 18 ≤ 300 * r) := hidP (by rw [List.length_append]; omega)
            have HGN : Hid (∀ q, 1 ≤ q → q ≤ c.n → compl c.cr q r = true → (gotR c got r c.n) q = r) := hidP HGN0.out
            have HSB : Hid (2 ≤ r + 1 → stopR c p r = none) := hidP (fun _ => hsn)
            clear hm6 hm6' hc hsn b140 hl hk
            have HST := hidP hstop
            have f0 : w6.cell? ⟨p.F, 0, none⟩ = some (.int .i64 c.last) := HF6.out.f.cell 0 (by omega)
            clear hstop
            go_upto_if 144 with fail
            refine wp_cond_at (decide (r < c.last)) (by simp [Act.eval, hV6]) (fun h => ?_) (fun h => ?_)
            · have hrlt : r < c.last := of_decide_eq_true h
              clear h
              refine gen_frame (fun V => V.size = 153 ∧ Keeps 10 152 [] T V ∧ V[10]?.getD undef = .int .i64 r) ⟨by simp [hV6], ?_, by simp [hV6, d10]⟩ ?_
              · repeat (refine Keeps.put ?_ _ _ (by first | exact .inr ⟨by decide, by decide⟩ | exact .inl (by decide)))
                exact HK6.out
              rintro Z ⟨hZ, hKZ, z10⟩
              have z0 := hKZ.at' hZ 0 (by decide) t0 (by decide) (by decide)
              have z10' : Z[10]'(by omega) = _ := at_of _ z10
              have HKZ := hidP hKZ
              clear hKZ z10 d0 d6 d10 HK6
              go_upto_region 7 with (go_at_call 29; refine (giveMessages c role HL.out.ap r (by omega) (gotR c got r c.n) ms (xs1 ++ headL c r ++ recvsL c p r c.n ++ coreLr c p r) g6 w6 HF6.out.st HM6.out.pr HM6.out.se HM6.out.lg HLX.out).mono ?_; rintro e w7 ⟨rfl, g7, m1, m2, m3, m4⟩)
              have hl := HL.out
              have HM7 := hidP (HM6.out.give hl m4 m2 m1 m3)
              have HO7 := hidP (HO6.out.trans' m4 (fun b _ e => by
                rcases e with e | e
                · exact touch_log HM6.out.lg hl b e
                · rw [e]; exact touch_se hl))
              have HN7 := hidP (HN6.out.trans m2 HO6.out.size)
              clear hl m1 m2 m3 m4 f0
              go_wp2_with fail
              first | refine ⟨trivial, k - 1, by omega, ?_⟩ | refine ⟨k - 1, by omega, ?_⟩
              rw [HI.out]
              have hst := HST.out
              have hrun := HRUN.out
              have hend := HEND.out
              rw [show c.last + 1 - r = (c.last + 1 - (r + 1)) + 1 by omega, runL, hst] at hrun
              rw [show c.last + 1 - r = (c.last + 1 - (r + 1)) + 1 by omega, endR, hst] at hend
              refine ⟨r + 1, by omega, by omega, ?_, by simp [hZ], ⟨(gotR c got r c.n), sentM c.cr r c.n ms, ib4, _, g7, evAt c p r (c.n + 1), HM7.out, fun h q h1 h2 => ?_, fun h => evAt_next c p r hrlt, fun q h1 h2 hq => ?_, fun q => ?_, ?_, by simpa using hend, ?_, ?_, HN7.out, HO7.out⟩⟩
              · repeat (refine Keeps.put ?_ _ _ (by first | exact .inr ⟨by decide, by decide⟩ | exact .inl (by decide)))
                exact HKZ.out
              · unfold sentM sentAt
                rw [if_pos ⟨h1, h2⟩]
                rfl
              · exact HGN.out q h1 h2 hq
              · have := gotR_le c got r c.n q
                have := HG.out q
                omega
              · rw [← hrun]
                simp [hrlt, List.append_assoc]
              · have := HLX2.out
                have := givesL_len c.cr r c.n
                rw [List.length_append]
                omega
              · exact HSB.out
            · have hrlt : ¬ r < c.last := of_decide_eq_false h
              clear h
              refine gen_frame (fun V => V.size = 153 ∧ Keeps 10 152 [] T V ∧ V[10]?.getD undef = .int .i64 r) ⟨by simp [hV6], ?_, by simp [hV6, d10]⟩ ?_
              · repeat (refine Keeps.put ?_ _ _ (by first | exact .inr ⟨by decide, by decide⟩ | exact .inl (by decide)))
                exact HK6.out
              rintro Z ⟨hZ, hKZ, z10⟩
              have z10' : Z[10]'(by omega) = _ := at_of _ z10
              have HKZ := hidP hKZ
              clear hKZ z10 d0 d6 d10 HK6 f0
              go_wp2_with fail
              first | refine ⟨trivial, k - 1, by omega, ?_⟩ | refine ⟨k - 1, by omega, ?_⟩
              rw [HI.out]
              have hst := HST.out
              have hrun := HRUN.out
              have hend := HEND.out
              rw [show c.last + 1 - r = (c.last + 1 - (r + 1)) + 1 by omega, runL, hst] at hrun
              rw [show c.last + 1 - r = (c.last + 1 - (r + 1)) + 1 by omega, endR, hst] at hend
              refine ⟨r + 1, by omega, by omega, ?_, by simp [hZ], ⟨(gotR c got r c.n), ms, ib4, _, g6, evAt c p r (c.n + 1), HM6.out, fun h => by omega, fun h => by omega, fun q h1 h2 hq => ?_, fun q => ?_, ?_, by simpa using hend, ?_, ?_, HN6.out, HO6.out⟩⟩
              · repeat (refine Keeps.put ?_ _ _ (by first | exact .inr ⟨by decide, by decide⟩ | exact .inl (by decide)))
                exact HKZ.out
              · exact HGN.out q h1 h2 hq
              · have := gotR_le c got r c.n q
                have := HG.out q
                omega
              · rw [← hrun]
                simp [hrlt, List.append_assoc]
              · have := HLX2.out
                omega
              · exact HSB.out
      | false =>
        have cKP : w5.cell? ⟨c.PL, 14, none⟩ = some (.slice none 0 0) := by rw [← hl.nokeep hkeep]; exact c14
        refine region_plain _ 153 hV5 [.pointer (some ⟨c.PL, 0, none⟩), .pointer (some ⟨c.PL, 0, none⟩), .pointer (some ⟨c.PL, 14, none⟩), .slice none 0 0, .bool false, .bool false, undef, undef, undef, undef, .bool false] w5 (by decide) (by decide) ?_ ?_
        · intro i hi U hU hK hprev
          have hi' : i < 11 := hi
          rcases (by omega : i = 0 ∨ i = 1 ∨ i = 2 ∨ i = 3 ∨ i = 4 ∨ i = 5 ∨ i = 6 ∨ i = 7 ∨ i = 8 ∨ i = 9 ∨ i = 10) with rfl | rfl | rfl | rfl | rfl | rfl | rfl | rfl | rfl | rfl | rfl
          · have hx0 : U[0]?.getD undef = .pointer (some ⟨c.PL, 0, none⟩) := kept_of hK 0 (by decide) (by assumption)
            refine .inl ⟨want_none rfl, ?_⟩
            refine step_of_run (v := .pointer (some ⟨c.PL, 0, none⟩)) (w' := _) ?_ ⟨rfl, _, rfl, (fun h => by cases h), rfl⟩
            simp [execOp, go_sem, hx0, cKP]
          · have d0 : U[130]?.getD undef = .pointer (some ⟨c.PL, 0, none⟩) := slot_of (hprev 0 (by decide)) rfl
            refine .inl ⟨want_none rfl, ?_⟩
            refine step_of_run (v := .pointer (some ⟨c.PL, 0, none⟩)) (w' := _) ?_ ⟨rfl, _, rfl, (fun h => by cases h), rfl⟩
            simp [execOp, go_sem, d0, cKP]
          · have d1 : U[131]?.getD undef = .pointer (some ⟨c.PL, 0, none⟩) := slot_of (hprev 1 (by decide)) rfl
            refine .inl ⟨want_none rfl, ?_⟩
            refine step_of_run (v := .pointer (some ⟨c.PL, 14, none⟩)) (w' := _) ?_ ⟨rfl, _, rfl, (fun h => by cases h), rfl⟩
            simp [execOp, go_sem, d1, cKP]
          · have d2 : U[132]?.getD undef = .pointer (some ⟨c.PL, 14, none⟩) := slot_of (hprev 2 (by decide)) rfl
            refine .inl ⟨want_none rfl, ?_⟩
            refine step_of_run (v := .slice none 0 0) (w' := _) ?_ ⟨rfl, _, rfl, (fun h => by cases h), rfl⟩
            simp [execOp, go_sem, d2, cKP]
          · have d3 : U[133]?.getD undef = .slice none 0 0 := slot_of (hprev 3 (by decide)) rfl
            refine .inl ⟨want_none rfl, ?_⟩
            refine step_of_run (v := .bool false) (w' := _) ?_ ⟨rfl, _, rfl, (fun h => by cases h), rfl⟩
            simp [execOp, go_sem, d3, cKP]
          · have d4 : U[134]?.getD undef = .bool false := slot_of (hprev 4 (by decide)) rfl
            refine .inl ⟨want_none rfl, ?_⟩
            refine step_of_run (v := .bool false) (w' := _) ?_ ⟨rfl, _, rfl, (fun h => by cases h), rfl⟩
            simp [execOp, go_sem, d4, cKP]
          · exact .inr ⟨skip_of (d := 135) rfl rfl (by omega) (slot_of (hprev 5 (by decide)) rfl), rfl⟩
          · exact .inr ⟨skip_of (d := 135) rfl rfl (by omega) (slot_of (hprev 5 (by decide)) rfl), rfl⟩
          · exact .inr ⟨skip_of (d := 135) rfl rfl (by omega) (slot_of (hprev 5 (by decide)) rfl), rfl⟩
          · exact .inr ⟨skip_of (d := 135) rfl rfl (by omega) (slot_of (hprev 5 (by decide)) rfl), rfl⟩
          · have d5 : U[135]?.getD undef = .bool false := slot_of (hprev 5 (by decide)) rfl
            have d9 : U[139]?.getD undef = undef := slot_of (hprev 9 (by decide)) rfl
            refine .inl ⟨want_none rfl, ?_⟩
            refine step_of_run (v := .bool false) (w' := _) ?_ ⟨rfl, _, rfl, (fun h => by cases h), rfl⟩
            simp [execOp, go_sem, d5, d9, cKP]
        · intro V6 hV6 hKV hall
          have hK6 := (Keeps.trans HK5.out (Kept.keeps (lo := 10) (hi := 152) (vs := []) hKV (hV6.trans hV5.symm) (by decide)))
          have b140 : V6[140]?.getD undef = .bool false := slot_of (hall 10 (by decide)) rfl
          have d10 : V6[10]'(by omega) = .int .i64 r := at_of _ (kept_of hKV 10 (by decide) v10)
          have d0 := hK6.at' hV6 0 (by decide) t0 (by decide) (by decide)
          have d6 := hK6.at' hV6 6 (by decide) t6 (by decide) (by decide)
          have hsn : stopR c p r = none := by unfold stopR; rw [hkeep]; rfl
          have hcl : coreLr c p r = [] := by unfold coreLr; rw [hkeep]; rfl
          have hstop : (stopR c p r).isSome = false := by rw [hsn]; rfl
          obtain ⟨w6, hw6⟩ : ∃ w6, w6 = w5 := ⟨_, rfl⟩
          obtain ⟨g6, hg6⟩ : ∃ g6, g6 = g4 := ⟨_, rfl⟩
          rw [← hw6]
          have hm6' : Mov c role p w6 (gotR c got r c.n) ms ib4 (dtAt c r) (xs1 ++ headL c r ++ recvsL c p r c.n ++ coreLr c p r) g6 (evAt c p r (c.n + 1)) (cmAt c (r + 1) 0) (yR c.cr c.n r) := by
            rw [hcl, List.append_nil, hw6, hg6]
            have h5 := HM5.out
            exact ⟨h5.pr, h5.se, h5.ib, h5.ou, h5.lg, h5.ev, (fun h => by rw [hkeep] at h; cases h), (fun h => by rw [hkeep] at h; cases h)⟩
          have HM6 := hidP hm6'
          have HF6 : Hid (Fixed c role p w6) := hidP (by rw [hw6]; exact HF5.out)
          have HO6 : Hid (Only (Touch c role) w w6) := hidP (by rw [hw6]; exact HO5.out)
          have HN6 : Hid (NewG w g g6) := hidP (by rw [hg6]; exact HN4.out)
          have HLX : Hid ((xs1 ++ headL c r ++ recvsL c p r c.n ++ coreLr c p r).length ≤ 800000) := hidP (by rw [hcl, List.append_nil]; omega)
          have HLX2 : Hid ((xs1 ++ headL c r ++ recvsL c p r c.n ++ coreLr c p r).length + 18 ≤ 300 * r) := hidP (by rw [hcl, List.append_nil]; omega)
          have HGN : Hid (∀ q, 1 ≤ q → q ≤ c.n → compl c.cr q r = true → (gotR c got r c.n) q = r) := hidP HGN0.out
          have HSB : Hid (2 ≤ r + 1 → stopR c p r = none) := hidP (fun _ => hsn)
          have HK6 := hidP hK6
          clear hall hKV hK6 v0 v10 cKP c14 hsn hcl hm6' hw6 hg6 hl
          go_upto_if 140 with fail
          refine wp_cond_at false (by simpa [Act.eval] using b140) (fun h => by cases h) (fun _ => ?_)
          clear b140
          have HST := hidP hstop
          have f0 : w6.cell? ⟨p.F, 0, none⟩ = some (.int .i64 c.last) := HF6.out.f.cell 0 (by omega)
          clear hstop
          go_upto_if 144 with fail
          refine wp_cond_at (decide (r < c.last)) (by simp [Act.eval, hV6]) (fun h => ?_) (fun h => ?_)
          · have hrlt : r < c.last := of_decide_eq_true h
            clear h
            refine gen_frame (fun V => V.size = 153 ∧ Keeps 10 152 [] T V ∧ V[10]?.getD undef = .int .i64 r) ⟨by simp [hV6], ?_, by simp [hV6, d10]⟩ ?_
            · repeat (refine Keeps.put ?_ _ _ (by first | exact .inr ⟨by decide, by decide⟩ | exact .inl (by decide)))
              exact HK6.out
            rintro Z ⟨hZ, hKZ, z10⟩
            have z0 := hKZ.at' hZ 0 (by decide) t0 (by decide) (by decide)
            have z10' : Z[10]'(by omega) = _ := at_of _ z10
            have HKZ := hidP hKZ
            clear hKZ z10 d0 d6 d10 HK6
            go_upto_region 7 with (go_at_call 29; refine (giveMessages c role HL.out.ap r (by omega) (gotR c got r c.n) ms (xs1 ++ headL c r ++ recvsL c p r c.n ++ coreLr c p r) g6 w6 HF6.out.st HM6.out.pr HM6.out.se HM6.out.lg HLX.out).mono ?_; rintro e w7 ⟨rfl, g7, m1, m2, m3, m4⟩)
            have hl := HL.out
            have HM7 := hidP (HM6.out.give hl m4 m2 m1 m3)
            have HO7 := hidP (HO6.out.trans' m4 (fun b _ e => by
              rcases e with e | e
              · exact touch_log HM6.out.lg hl b e
              · rw [e]; exact touch_se hl))
            have HN7 := hidP (HN6.out.trans m2 HO6.out.size)
            clear hl m1 m2 m3 m4 f0
            go_wp2_with fail
            first | refine ⟨trivial, k - 1, by omega, ?_⟩ | refine ⟨k - 1, by omega, ?_⟩
            rw [HI.out]
            have hst := HST.out
            have hrun := HRUN.out
            have hend := HEND.out
            rw [show c.last + 1 - r = (c.last + 1 - (r + 1)) + 1 by omega, runL, hst] at hrun
            rw [show c.last + 1 - r = (c.last + 1 - (r + 1)) + 1 by omega, endR, hst] at hend
            refine ⟨r + 1, by omega, by omega, ?_, by simp [hZ], ⟨(gotR c got r c.n), sentM c.cr r c.n ms, ib4, _, g7, evAt c p r (c.n + 1), HM7.out, fun h q h1 h2 => ?_, fun h => evAt_next c p r hrlt, fun q h1 h2 hq => ?_, fun q => ?_, ?_, by simpa using hend, ?_, ?_, HN7.out, HO7.out⟩⟩
            · repeat (refine Keeps.put ?_ _ _ (by first | exact .inr ⟨by decide, by decide⟩ | exact .inl (by decide)))
              exact HKZ.out
            · unfold sentM sentAt
              rw [if_pos ⟨h1, h2⟩]
              rfl
            · exact HGN.out q h1 h2 hq
            · have := gotR_le c got r c.n q
              have := HG.out q
              omega
            · rw [← hrun]
              simp [hrlt, List.append_assoc]
            · have := HLX2.out
              have := givesL_len c.cr r c.n
              rw [List.length_append]
              omega
            · exact HSB.out
          · have hrlt : ¬ r < c.last := of_decide_eq_false h
            clear h
            refine gen_frame (fun V => V.size = 153 ∧ Keeps 10 152 [] T V ∧ V[10]?.getD undef = .int .i64 r) ⟨by simp [hV6], ?_, by simp [hV6, d10]⟩ ?_
            · repeat (refine Keeps.put ?_ _ _ (by first | exact .inr ⟨by decide, by decide⟩ | exact .inl (by decide)))
              exact HK6.out
            rintro Z ⟨hZ, hKZ, z10⟩
            have z10' : Z[10]'(by omega) = _ := at_of _ z10
            have HKZ := hidP hKZ
            clear hKZ z10 d0 d6 d10 HK6 f0
            go_wp2_with fail
            first | refine ⟨trivial, k - 1, by omega, ?_⟩ | refine ⟨k - 1, by omega, ?_⟩
            rw [HI.out]
            have hst := HST.out
            have hrun := HRUN.out
            have hend := HEND.out
            rw [show c.last + 1 - r = (c.last + 1 - (r + 1)) + 1 by omega, runL, hst] at hrun
            rw [show c.last + 1 - r = (c.last + 1 - (r + 1)) + 1 by omega, endR, hst] at hend
            refine ⟨r + 1, by omega, by omega, ?_, by simp [hZ], ⟨(gotR c got r c.n), ms, ib4, _, g6, evAt c p r (c.n + 1), HM6.out, fun h => by omega, fun h => by omega, fun q h1 h2 hq => ?_, fun q => ?_, ?_, by simpa using hend, ?_, ?_, HN6.out, HO6.out⟩⟩
            · repeat (refine Keeps.put ?_ _ _ (by first | exact .inr ⟨by decide, by decide⟩ | exact .inl (by decide)))
              exact HKZ.out
            · exact HGN.out q h1 h2 hq
            · have := gotR_le c got r c.n q
              have := HG.out q
              omega
            · rw [← hrun]
              simp [hrlt, List.append_assoc]
            · have := HLX2.out
              omega
            · exact HSB.out
    · have hrl : r = c.last + 1 := by have := of_decide_eq_false h; omega
      clear h
      go_wp2_with fail
      subst hrl
      have hm1 := HM1.out
      have hrun := HRUN.out
      have hend := HEND.out
      rw [Nat.sub_self] at hrun hend
      have e1 : runL c p 0 (c.last + 1) = [] := rfl
      have e2 : endR c p 0 (c.last + 1) = c.last := rfl
      rw [e1, List.append_nil] at hrun
      rw [e2] at hend
      rw [hrun, Nat.add_sub_cancel, cmAt_end c p hnn (fun h => by have := HNST.out (by omega); rwa [Nat.add_sub_cancel] at this), hend] at hm1
      have hend' := hend
      refine HQ.out _ _ g1 got ms ib1 evs1 (yR c.cr c.n c.last) ?_ (by rw [← hend] at hm1 ⊢; exact hm1) HO1.out
      repeat (refine Keeps.put ?_ _ _ (by first | exact .inr ⟨by decide, by decide⟩ | exact .inl (by decide)))
      exact HK.out
  · rw [HI.out]
    refine ⟨1, by omega, by omega, Keeps.refl, t10, fun _ => 0, ms, ib, [], g, evs, HM.out, fun _ => HMS0.out, HEV0.out, fun _ _ _ _ => rfl, fun _ => Nat.le_refl _, ?_, ?_, by simp, fun h => by omega, NewG.refl _ _, Only.refl⟩
    · simp
    · simp
end Go.Proofs.Ybulkcawy
