/-
  playFrom's loop over the receivers.
-/
import Derived.Test.YbulkcawySteps
import Derived.Deep.CutBlock
namespace Go.Proofs.Ybulkcawy
open Go.RowKit
set_option linter.unusedSimpArgs false
set_option linter.unusedVariables false
set_option maxRecDepth 100000
set_option maxHeartbeats 4000000

theorem NewG.trans' {w w1 : World} {g1 g2 : Option Nat} (h : NewG w1 g1 g2) (hs : w.heap.size ≤ w1.heap.size) : NewG w g1 g2 := fun b hb => by
  rcases h b hb with e | e
  · exact .inl e
  · exact .inr (by omega)

theorem inbAt_of (c : Cfg) (p : Par) (r i : Nat) (ms : Nat → Option Int) (hms : ∀ q, 1 ≤ q → q ≤ c.n → ms q = sentAt c.cr r q) (x : Nat) (hx : x < c.n) : cutB c p i r p.fl.length (fun k => ms (k + 1)) x = inbAt c p r i x := by
  unfold cutB inbAt delP dlv
  simp only [List.take_length]
  rw [hms (x + 1) (by omega) (by omega)]
  cases p.fl.contains (x + 1) <;> cases deliv c.cr (p.re (x + 1)) (p.mm (x + 1)) (p.lo (x + 1)) c.n (x + 1) i r <;> rfl

theorem play4 (c : Cfg) (role : Nat → Nat) (p : Par) (hl : Lay c role p) (r : Nat) (hr : 1 ≤ r) (hr' : r ≤ c.last) (w : World) (hf : Fixed c role p w) (got : Nat → Nat) (ms ib : Nat → Option Int) (dt : Nat → Option Nat) (xs : List Int) (g : Option Nat) (cm : Nat → Option (Nat × Nat)) (y : Nat) (hm : Mov c role p w got ms ib dt xs g (evAt c p r 1) cm y)
    (hms : ∀ q, 1 ≤ q → q ≤ c.n → ms q = sentAt c.cr r q) (hgot : ∀ q, got q ≤ 900) (hlen : xs.length ≤ 700000) (T : Array Value) (Q : Exit → Act → World → Prop) (hT0 : T.size = 153)
    (t0 : T[0]?.getD undef = .pointer (some ⟨c.PL, 0, none⟩)) (t5 : T[5]?.getD undef = .int .i64 c.n) (t6 : T[6]?.getD undef = .pointer (some ⟨p.F, 0, none⟩)) (t7 : T[7]?.getD undef = .slice (some ⟨c.SE, 0, none⟩) (c.n + 1) (c.n + 1)) (t8 : T[8]?.getD undef = .slice (some ⟨c.IN, 0, none⟩) c.n c.n) (t9 : T[9]?.getD undef = .pointer (some ⟨p.X, 0, none⟩)) (t10 : T[10]?.getD undef = .int .i64 r) (t11 : T[11]?.getD undef = .int .i64 1)
    (hQ : ∀ T' w' g' ib', Keeps 12 152 [11] T T' → Mov c role p w' (gotR c got r c.n) ms ib' dt (xs ++ recvsL c p r c.n) g' (evAt c p r (c.n + 1)) cm y → NewG w g g' → Only (Touch c role) w w' → Q .normal ⟨T', []⟩ w') : (blkOf Yba.f15 4).wp Yba.prog Q ⟨T, []⟩ w := by
  conv in (blkOf Yba.f15 4) => whnf
  refine wp_block ?_
  have HQ := hidP hQ
  have HL := hidP hl
  have HF := hidP hf
  have HM := hidP hm
  have HMS := hidP hms
  have HG := hidP hgot
  have hsm := hl.ap.small
  have hsm' := hl.ap.small'
  have hnn := hl.n1
  clear hQ hl hf hm hms hgot
  obtain ⟨I, hI⟩ : ∃ I : Nat → Array Value → World → Prop, I = (fun k T2 wr => ∃ i, 1 ≤ i ∧ i + k = c.n + 1 ∧ Keeps 12 152 [11] T T2 ∧ T2[11]?.getD undef = .int .i64 i ∧ ∃ g1 ib1, Mov c role p wr (gotR c got r (i - 1)) ms ib1 dt (xs ++ recvsL c p r (i - 1)) g1 (evAt c p r i) cm y ∧ NewG w g g1 ∧ Only (Touch c role) w wr) := ⟨_, rfl⟩
  have HI := hidP hI
  clear hI
  refine wp_loop_n I ?_ c.n _ _ ?_
  · intro k T2 wr hIk
    rw [HI.out] at hIk
    obtain ⟨i, hi1, hik, hK, u11, g1, ib1, hm1, hn1, ho1⟩ := hIk
    have hT : T2.size = 153 := hK.1.trans hT0
    have a0 := hK.at' hT 0 (by decide) t0 (by decide) (by decide)
    have a5 := hK.at' hT 5 (by decide) t5 (by decide) (by decide)
    have a6 := hK.at' hT 6 (by decide) t6 (by decide) (by decide)
    have a7 := hK.at' hT 7 (by decide) t7 (by decide) (by decide)
    have a8 := hK.at' hT 8 (by decide) t8 (by decide) (by decide)
    have a9 := hK.at' hT 9 (by decide) t9 (by decide) (by decide)
    have a10 := hK.at' hT 10 (by decide) t10 (by decide) (by decide)
    have a11 : T2[11]'(by omega) = _ := at_of _ u11
    have hfr : Fixed c role p wr := HF.out.only HL.out ho1 (fun b _ e => e)
    have HK := hidP hK
    have HM1 := hidP hm1
    have HN1 := hidP hn1
    have HO1 := hidP ho1
    have HFR := hidP hfr
    clear hK u11 hm1 hn1 ho1 hfr
    go_upto_if 69 with fail
    refine wp_cond_at (decide (i ≤ c.n)) (by simp [Act.eval, hT]) (fun h => ?_) (fun h => ?_)
    · have hin : i ≤ c.n := of_decide_eq_true h
      clear h
      obtain ⟨fa0, fl, fc, hfa⟩ := HL.out.ap.fasl
      have f0 : wr.cell? ⟨p.F, 0, none⟩ = some (.int .i64 c.last) := HFR.out.f.cell 0 (by omega)
      have f1 : wr.cell? ⟨p.F, 1, none⟩ = some (.slice (some ⟨c.C, 0, none⟩) (c.n + 1) (c.n + 1)) := HFR.out.f.cell 1 (by omega)
      have f2 : wr.cell? ⟨p.F, 2, none⟩ = some (.slice (some ⟨c.R, 0, none⟩) (c.n + 1) (c.n + 1)) := HFR.out.f.cell 2 (by omega)
      have f3 : wr.cell? ⟨p.F, 3, none⟩ = some (.slice (some ⟨c.Lo, 0, none⟩) (c.n + 1) (c.n + 1)) := HFR.out.f.cell 3 (by omega)
      have f4 : wr.cell? ⟨p.F, 4, none⟩ = some (.slice fa0 fl fc) := (HFR.out.f.cell 4 (by omega)).trans (by rw [← hfa]; rfl)
      have f5 : wr.cell? ⟨p.F, 5, none⟩ = some (.slice (some ⟨c.LO, 0, none⟩) (c.n + 1) (c.n + 1)) := HFR.out.f.cell 5 (by omega)
      have HFA := hidP hfa
      clear hfa
      refine gen_frame (fun U => U.size = 153 ∧ Keeps 12 152 [11] T U ∧ U[11]?.getD undef = .int .i64 i) ⟨by simp [hT], ?_, by simp [hT, a11]⟩ ?_
      · repeat (refine Keeps.put ?_ _ _ (by first | exact .inr ⟨by decide, by decide⟩ | exact .inl (by decide)))
        exact HK.out
      rintro U ⟨hU, hKU, u11⟩
      have b0 := hKU.at' hU 0 (by decide) t0 (by decide) (by decide)
      have b5 := hKU.at' hU 5 (by decide) t5 (by decide) (by decide)
      have b6 := hKU.at' hU 6 (by decide) t6 (by decide) (by decide)
      have b7 := hKU.at' hU 7 (by decide) t7 (by decide) (by decide)
      have b8 := hKU.at' hU 8 (by decide) t8 (by decide) (by decide)
      have b9 := hKU.at' hU 9 (by decide) t9 (by decide) (by decide)
      have b10 := hKU.at' hU 10 (by decide) t10 (by decide) (by decide)
      have b11 : U[11]'(by omega) = _ := at_of _ u11
      have HKU := hidP hKU
      clear hKU u11 a0 a5 a6 a7 a8 a9 a10 a11 hT
      go_upto_if 76 with (go_at_call 24; refine (completes c.last c.n c.C c.R c.Lo c.LO i r (.slice fa0 fl fc) ⟨fa0, fl, fc, rfl⟩ c.cr wr HFR.out.st.cr hin).mono ?_; rintro e w2 ⟨rfl, ho⟩)
      have ho2 : ∃ wz, Only (fun _ => False) wr wz ∧ wz = w2 := ⟨w2, ho, rfl⟩
      obtain ⟨wz, hoz, rfl⟩ := ho2
      have HMZ := hidP (HM1.out.same HL.out hoz)
      have HFZ := hidP (HFR.out.only HL.out hoz (fun _ _ e => e.elim))
      have HOZ := hidP (HO1.out.trans' hoz (fun _ _ e => e.elim))
      clear ho hoz f0 f1 f2 f3 f4 f5
      refine wp_cond_at (!compl c.cr i r) (by simp [Act.eval, hU]) (fun hc => ?_) (fun hc => ?_)
      · have hcc : compl c.cr i r = false := by simpa using hc
        clear hc
        refine gen_frame (fun V => V.size = 153 ∧ Keeps 12 152 [11] T V ∧ V[11]?.getD undef = .int .i64 i) ⟨by simp [hU], ?_, by simp [hU, b11]⟩ ?_
        · repeat (refine Keeps.put ?_ _ _ (by first | exact .inr ⟨by decide, by decide⟩ | exact .inl (by decide)))
          exact HKU.out
        rintro V ⟨hV, hKV, v11⟩
        have d11 : V[11]'(by omega) = _ := at_of _ v11
        have HKV := hidP hKV
        clear hKV v11 b0 b5 b6 b7 b8 b9 b10 b11
        go_wp2_with fail
        first | refine ⟨trivial, k - 1, by omega, ?_⟩ | refine ⟨k - 1, by omega, ?_⟩
        rw [HI.out]
        refine ⟨i + 1, by omega, by omega, ?_, by simp [hV], g1, ib1, ?_, HN1.out, HOZ.out⟩
        · repeat (refine Keeps.put ?_ _ _ (by first | exact .inr ⟨by decide, by decide⟩ | exact .inl (by decide)))
          exact HKV.out
        · rw [gotR_same c got r i hi1 hcc]
          have e2 : recvsL c p r (i + 1 - 1) = recvsL c p r (i - 1) := by
            rw [show i + 1 - 1 = i - 1 + 1 by omega, recvsL_succ, show i - 1 + 1 = i by omega, recvL, hcc]
            simp
          have e3 : evAt c p r i = evAt c p r (i + 1) := by
            rw [evAt_step c p r i hin, HL.out.evc r i hcc]
            simp
          rw [e2, ← e3]
          exact HMZ.out
      · have hcc : compl c.cr i r = true := by simpa using hc
        clear hc
        refine gen_frame (fun V => V.size = 153 ∧ Keeps 12 152 [11] T V ∧ V[11]?.getD undef = .int .i64 i) ⟨by simp [hU], ?_, by simp [hU, b11]⟩ ?_
        · repeat (refine Keeps.put ?_ _ _ (by first | exact .inr ⟨by decide, by decide⟩ | exact .inl (by decide)))
          exact HKU.out
        rintro V ⟨hV, hKV, v11⟩
        have v8 : V[8]?.getD undef = .slice (some ⟨c.IN, 0, none⟩) c.n c.n := hKV.get t8 (by decide) (by decide)
        have v7 : V[7]?.getD undef = .slice (some ⟨c.SE, 0, none⟩) (c.n + 1) (c.n + 1) := hKV.get t7 (by decide) (by decide)
        have HKV := hidP hKV
        have hn1 : (1 : Int) ≤ (c.n : Int) + 1 := by omega
        have hn2 : ¬ c.n = 0 := by omega
        clear hKV b0 b5 b6 b7 b8 b9 b10 b11
        go_upto_region 14 with fail
        refine region_plainW _ 153 hV [.slice (some ⟨c.IN, 0, none⟩) c.n c.n, .slice (some ⟨c.SE, 0, none⟩) (c.n + 1) (c.n + 1), .slice (some ⟨c.SE, 1, none⟩) c.n c.n, .int .i64 c.n] (fun i w1 => if i ≤ 3 then w1 = wz else (Row w1 c.IN 20 c.n (fun k => msgV (ms (k + 1))) ∧ Only (fun b => b = c.IN) wz w1)) wz rfl (by decide) (by decide) ?_ ?_
        · intro i hi U w1 hSt hU hK hprev
          have hi' : i < 4 := hi
          rcases (by omega : i = 0 ∨ i = 1 ∨ i = 2 ∨ i = 3) with rfl | rfl | rfl | rfl
          · have hw1 : w1 = wz := hSt
            subst hw1
            have hx8 : U[8]?.getD undef = .slice (some ⟨c.IN, 0, none⟩) c.n c.n := kept_of hK 8 (by decide) (by assumption)
            refine .inl ⟨want_none rfl, ?_⟩
            refine step_of_run (v := .slice (some ⟨c.IN, 0, none⟩) c.n c.n) (w' := _) ?_ ⟨rfl, _, rfl, (fun h => by cases h), rfl⟩
            simp [execOp, go_sem, hx8, hn1, hn2]
          · have hw1 : w1 = wz := hSt
            subst hw1
            have hx7 : U[7]?.getD undef = .slice (some ⟨c.SE, 0, none⟩) (c.n + 1) (c.n + 1) := kept_of hK 7 (by decide) (by assumption)
            refine .inl ⟨want_none rfl, ?_⟩
            refine step_of_run (v := .slice (some ⟨c.SE, 0, none⟩) (c.n + 1) (c.n + 1)) (w' := _) ?_ ⟨rfl, _, rfl, (fun h => by cases h), rfl⟩
            simp [execOp, go_sem, hx7, hn1, hn2]
          · have hw1 : w1 = wz := hSt
            subst hw1
            have d1 : U[78]?.getD undef = .slice (some ⟨c.SE, 0, none⟩) (c.n + 1) (c.n + 1) := slot_of (hprev 1 (by decide)) rfl
            refine .inl ⟨want_none rfl, ?_⟩
            refine step_of_run (v := .slice (some ⟨c.SE, 1, none⟩) c.n c.n) (w' := _) ?_ ⟨rfl, _, rfl, (fun h => by cases h), rfl⟩
            simp [execOp, go_sem, d1, hn1, hn2]
          · have hw1 : w1 = wz := hSt
            subst hw1
            have d0 : U[77]?.getD undef = .slice (some ⟨c.IN, 0, none⟩) c.n c.n := slot_of (hprev 0 (by decide)) rfl
            have d2 : U[79]?.getD undef = .slice (some ⟨c.SE, 1, none⟩) c.n c.n := slot_of (hprev 2 (by decide)) rfl
            refine .inl ⟨want_none rfl, ?_⟩
            obtain ⟨w9, hc1, hc2, hc3⟩ := copyMsgs c.n c.SE c.IN w1 ms ib1 3 HMZ.out.se HMZ.out.ib
            refine step_of_run (v := .int .i64 c.n) (w' := w9) ?_ ⟨⟨hc2, hc3⟩, _, rfl, (fun h => by cases h), rfl⟩
            simp [execOp, go_sem, d0, d2, hc1]
        · intro V2 w5 hSt hV2 hKV2 hall
          obtain ⟨hin5, ho5⟩ : Row w5 c.IN 20 c.n (fun k => msgV (ms (k + 1))) ∧ Only (fun b => b = c.IN) wz w5 := hSt
          have hl := HL.out
          have hk5 := (Keeps.trans HKV.out (Kept.keeps (lo := 12) (hi := 152) (vs := [11]) hKV2 (hV2.trans hV.symm) (by decide)))
          have d11 : V2[11]'(by omega) = .int .i64 i := at_of _ (kept_of hKV2 11 (by decide) v11)
          have HM5 := hidP (HMZ.out.inbox hl ho5 hin5)
          have HF5 := hidP (HFZ.out.only hl ho5 (fun b _ e => by rw [e]; exact touch_in hl))
          have HO5 := hidP (HOZ.out.trans' ho5 (fun b _ e => by rw [e]; exact touch_in hl))
          have d6 := hk5.at' hV2 6 (by decide) t6 (by decide) (by decide)
          obtain ⟨fa0, cap, hfa⟩ := HF5.out.fa.form
          have f4 : w5.cell? ⟨p.F, 4, none⟩ = some (.slice fa0 p.fl.length cap) := (HF5.out.f.cell 4 (by omega)).trans (by rw [← hfa]; rfl)
          have HK5 := hidP hk5
          have HFA2 := hidP hfa
          clear hKV2 hall hin5 ho5 hl hk5 v8 v7 v11 hfa
          go_upto_block 6 with fail
          refine play6 c role p HL.out r i hr hr' hi1 hin w5 HF5.out (fun k => ms (k + 1)) HM5.out.ib _ _ (by simp [hV2]) ?_ ?_ ?_ ?_ ?_ ?_ ?_ ?_
          · exact (Keeps.put (Keeps.put (Keeps.put (Keeps.put HK5.out 81 _ (.inr ⟨by decide, by decide⟩)) 82 _ (.inr ⟨by decide, by decide⟩)) 83 _ (.inr ⟨by decide, by decide⟩)) 84 _ (.inr ⟨by decide, by decide⟩)).get t6 (by decide) (by decide)
          · exact (Keeps.put (Keeps.put (Keeps.put (Keeps.put HK5.out 81 _ (.inr ⟨by decide, by decide⟩)) 82 _ (.inr ⟨by decide, by decide⟩)) 83 _ (.inr ⟨by decide, by decide⟩)) 84 _ (.inr ⟨by decide, by decide⟩)).get t8 (by decide) (by decide)
          · exact (Keeps.put (Keeps.put (Keeps.put (Keeps.put HK5.out 81 _ (.inr ⟨by decide, by decide⟩)) 82 _ (.inr ⟨by decide, by decide⟩)) 83 _ (.inr ⟨by decide, by decide⟩)) 84 _ (.inr ⟨by decide, by decide⟩)).get t10 (by decide) (by decide)
          · simp [hV2, d11]
          · simp [hV2, HFA2.out]
          · simp [hV2]
          · simp [hV2]
          intro W w6 hKW hin6 ho6
          have hl := HL.out
          have hin6' : Row w6 c.IN 20 c.n (fun k => msgV (inbAt c p r i k)) := hin6.ext fun x hx => by rw [inbAt_of c p r i ms HMS.out x hx]
          have hm6 := HM5.out.inbox hl ho6 hin6'
          have HM6 := hidP hm6
          have HF6 := hidP (HF5.out.only hl ho6 (fun b _ e => by rw [e]; exact touch_in hl))
          have HO6 := hidP (HO5.out.trans' ho6 (fun b _ e => by rw [e]; exact touch_in hl))
          have hkW : Keeps 12 152 [11] T W := Keeps.trans (Keeps.put (Keeps.put (Keeps.put (Keeps.put HK5.out 81 _ (.inr ⟨by decide, by decide⟩)) 82 _ (.inr ⟨by decide, by decide⟩)) 83 _ (.inr ⟨by decide, by decide⟩)) 84 _ (.inr ⟨by decide, by decide⟩)) (hKW.mono (fun _ h => by simp at h) (by decide) (by decide))
          have hW : W.size = 153 := hkW.1.trans hT0
          have w11 : W[11]?.getD undef = .int .i64 i := hKW.get (by simp [hV2, d11]) (by decide) (by decide)
          have e0 := hkW.at' hW 0 (by decide) t0 (by decide) (by decide)
          have e5 := hkW.at' hW 5 (by decide) t5 (by decide) (by decide)
          have e6 := hkW.at' hW 6 (by decide) t6 (by decide) (by decide)
          have e7 := hkW.at' hW 7 (by decide) t7 (by decide) (by decide)
          have e8 := hkW.at' hW 8 (by decide) t8 (by decide) (by decide)
          have e9 := hkW.at' hW 9 (by decide) t9 (by decide) (by decide)
          have e10 := hkW.at' hW 10 (by decide) t10 (by decide) (by decide)
          have f11 : W[11]'(by omega) = _ := at_of _ w11
          have HKW := hidP hkW
          have c14 : w6.cell? ⟨c.PL, 14, none⟩ = some c.kp := HF6.out.st.pl.cell 14 (by omega)
          clear hin6 ho6 hin6' hm6 hKW hkW f4 d6 d11
          cases hkeep : p.keep with
          | true =>
            have hk := hl.kept hkeep
            rw [hk.ekp] at c14
            have HKK := hidP hk
            clear hl hk
            go_upto_if 103 with fail
            refine wp_cond_at true (by simp [Act.eval, hW]) (fun _ => ?_) (fun h => by cases h)
            refine gen_frame (fun V => V.size = 153 ∧ Keeps 12 152 [11] T V ∧ V[11]?.getD undef = .int .i64 i) ⟨by simp [hW], ?_, by simp [hW, f11]⟩ ?_
            · repeat (refine Keeps.put ?_ _ _ (by first | exact .inr ⟨by decide, by decide⟩ | exact .inl (by decide)))
              exact HKW.out
            clear e0 e5 e6 e7 e8 e9 e10 w11 f11 HKW hW
            rintro W2 ⟨hW, hkW, w11⟩
            have HKW := hidP hkW
            have w0 := hkW.get t0 (by decide) (by decide)
            have w9 := hkW.get t9 (by decide) (by decide)
            have w10 := hkW.get t10 (by decide) (by decide)
            have hl := HL.out
            have hk := HKK.out
            have i1 : (0 : Int) ≤ (i : Int) := by omega
            have i2 : (i : Int) < (c.n : Int) + 1 := by omega
            refine region_chain (by kernel_rfl) _ 153 hW [some (.pointer (some ⟨c.PL, 0, none⟩)), some (.pointer (some ⟨c.PL, 0, none⟩)), some (.pointer (some ⟨c.PL, 14, none⟩)), some (.slice (some ⟨p.KP, 0, none⟩) (c.n + 1) (c.n + 1)), some (.int .i64 i), some (.pointer (some ⟨p.KP, i, none⟩)), some (.iface 64 (.pointer (some ⟨c.ap i, 0, none⟩))), some (.int .i64 i), some (.int .i64 r), none, some (.iface 64 (.pointer (some ⟨c.ap i, 0, none⟩))), some (.iface 64 (.pointer (some ⟨c.ap i, 0, none⟩))), none] [9, 12] (fun vs w1 => Fixed c role p w1 ∧ (match vs with | [] => w1 = w6.drew | [v] => EvS w1 p.EB c.L v (p.E r i) ∧ Mov c role p w1 (gotR c got r (i - 1)) ms (inbAt c p r i) dt (xs ++ recvsL c p r (i - 1)) g1 (evAt c p r (i + 1)) cm y ∧ Only (fun b => b = p.X) w6 w1 | _ => ∃ g2, Mov c role p w1 (gotR c got r (i - 1)) ms (inbAt c p r i) dt (xs ++ recvsL c p r (i - 1) ++ [-4, (i : Int), ((p.E r i).length : Int)] ++ (p.E r i).flatMap Ev.code) g2 (evAt c p r (i + 1)) cm y ∧ NewG w6 g1 g2 ∧ Only (Touch c role) w6 w1)) (by decide) (by decide) (by decide) (by decide) (by decide) (by decide) ?_ ?_ ?_ ⟨HF6.out.only hl (Only.refl (S := fun _ => False)).drew (fun _ _ e => e.elim), rfl⟩
            · intro i hi U vs w1 hia hU hK hSt hanc hdep
              have hi' : i < 13 := hi
              rcases (by omega : i = 0 ∨ i = 1 ∨ i = 2 ∨ i = 3 ∨ i = 4 ∨ i = 5 ∨ i = 6 ∨ i = 7 ∨ i = 8 ∨ i = 9 ∨ i = 10 ∨ i = 11 ∨ i = 12) with rfl | rfl | rfl | rfl | rfl | rfl | rfl | rfl | rfl | rfl | rfl | rfl | rfl
              · have hF1 := hSt.1
                have cKP : w1.cell? ⟨c.PL, 14, none⟩ = some (.slice (some ⟨p.KP, 0, none⟩) (c.n + 1) (c.n + 1)) := (hF1.st.pl.cell 14 (by omega)).trans (by rw [← hk.ekp]; rfl)
                have cAP : w1.cell? ⟨p.KP, i, none⟩ = some (.iface 64 (.pointer (some ⟨c.ap i, 0, none⟩))) := by have := (hF1.kp hkeep).cell i (by omega); rwa [Cfg.procM, if_neg (by omega)] at this
                have hx0 : U[0]?.getD undef = .pointer (some ⟨c.PL, 0, none⟩) := kept_of hK 0 (by decide) (by assumption)
                refine step_of_run (v := .pointer (some ⟨c.PL, 0, none⟩)) (w' := _) ?_ ⟨rfl, _, rfl, (fun h => by cases h), rfl⟩
                simp [execOp, go_sem, hx0, cKP, cAP, i1, i2]
              · have hF1 := hSt.1
                have cKP : w1.cell? ⟨c.PL, 14, none⟩ = some (.slice (some ⟨p.KP, 0, none⟩) (c.n + 1) (c.n + 1)) := (hF1.st.pl.cell 14 (by omega)).trans (by rw [← hk.ekp]; rfl)
                have cAP : w1.cell? ⟨p.KP, i, none⟩ = some (.iface 64 (.pointer (some ⟨c.ap i, 0, none⟩))) := by have := (hF1.kp hkeep).cell i (by omega); rwa [Cfg.procM, if_neg (by omega)] at this
                have d0 : U[104]?.getD undef = .pointer (some ⟨c.PL, 0, none⟩) := slot_of (chain_of (hdep ⟨0, .data⟩ (by simp) rfl (by decide)) rfl) rfl
                refine step_of_run (v := .pointer (some ⟨c.PL, 0, none⟩)) (w' := _) ?_ ⟨rfl, _, rfl, (fun h => by cases h), rfl⟩
                simp [execOp, go_sem, d0, cKP, cAP, i1, i2]
              · have hF1 := hSt.1
                have cKP : w1.cell? ⟨c.PL, 14, none⟩ = some (.slice (some ⟨p.KP, 0, none⟩) (c.n + 1) (c.n + 1)) := (hF1.st.pl.cell 14 (by omega)).trans (by rw [← hk.ekp]; rfl)
                have cAP : w1.cell? ⟨p.KP, i, none⟩ = some (.iface 64 (.pointer (some ⟨c.ap i, 0, none⟩))) := by have := (hF1.kp hkeep).cell i (by omega); rwa [Cfg.procM, if_neg (by omega)] at this
                have d1 : U[105]?.getD undef = .pointer (some ⟨c.PL, 0, none⟩) := slot_of (chain_of (hdep ⟨1, .data⟩ (by simp) rfl (by decide)) rfl) rfl
                refine step_of_run (v := .pointer (some ⟨c.PL, 14, none⟩)) (w' := _) ?_ ⟨rfl, _, rfl, (fun h => by cases h), rfl⟩
                simp [execOp, go_sem, d1, cKP, cAP, i1, i2]
              · have hF1 := hSt.1
                have cKP : w1.cell? ⟨c.PL, 14, none⟩ = some (.slice (some ⟨p.KP, 0, none⟩) (c.n + 1) (c.n + 1)) := (hF1.st.pl.cell 14 (by omega)).trans (by rw [← hk.ekp]; rfl)
                have cAP : w1.cell? ⟨p.KP, i, none⟩ = some (.iface 64 (.pointer (some ⟨c.ap i, 0, none⟩))) := by have := (hF1.kp hkeep).cell i (by omega); rwa [Cfg.procM, if_neg (by omega)] at this
                have d2 : U[106]?.getD undef = .pointer (some ⟨c.PL, 14, none⟩) := slot_of (chain_of (hdep ⟨2, .data⟩ (by simp) rfl (by decide)) rfl) rfl
                refine step_of_run (v := .slice (some ⟨p.KP, 0, none⟩) (c.n + 1) (c.n + 1)) (w' := _) ?_ ⟨rfl, _, rfl, (fun h => by cases h), rfl⟩
                simp [execOp, go_sem, d2, cKP, cAP, i1, i2]
              · have hF1 := hSt.1
                have cKP : w1.cell? ⟨c.PL, 14, none⟩ = some (.slice (some ⟨p.KP, 0, none⟩) (c.n + 1) (c.n + 1)) := (hF1.st.pl.cell 14 (by omega)).trans (by rw [← hk.ekp]; rfl)
                have cAP : w1.cell? ⟨p.KP, i, none⟩ = some (.iface 64 (.pointer (some ⟨c.ap i, 0, none⟩))) := by have := (hF1.kp hkeep).cell i (by omega); rwa [Cfg.procM, if_neg (by omega)] at this
                have hx11 : U[11]?.getD undef = .int .i64 i := kept_of hK 11 (by decide) (by assumption)
                refine step_of_run (v := .int .i64 i) (w' := _) ?_ ⟨rfl, _, rfl, (fun h => by cases h), rfl⟩
                simp [execOp, go_sem, hx11, cKP, cAP, i1, i2]
              · have hF1 := hSt.1
                have cKP : w1.cell? ⟨c.PL, 14, none⟩ = some (.slice (some ⟨p.KP, 0, none⟩) (c.n + 1) (c.n + 1)) := (hF1.st.pl.cell 14 (by omega)).trans (by rw [← hk.ekp]; rfl)
                have cAP : w1.cell? ⟨p.KP, i, none⟩ = some (.iface 64 (.pointer (some ⟨c.ap i, 0, none⟩))) := by have := (hF1.kp hkeep).cell i (by omega); rwa [Cfg.procM, if_neg (by omega)] at this
                have d3 : U[107]?.getD undef = .slice (some ⟨p.KP, 0, none⟩) (c.n + 1) (c.n + 1) := slot_of (chain_of (hdep ⟨3, .data⟩ (by simp) rfl (by decide)) rfl) rfl
                have d4 : U[108]?.getD undef = .int .i64 i := slot_of (chain_of (hdep ⟨4, .data⟩ (by simp) rfl (by decide)) rfl) rfl
                refine step_of_run (v := .pointer (some ⟨p.KP, i, none⟩)) (w' := _) ?_ ⟨rfl, _, rfl, (fun h => by cases h), rfl⟩
                simp [execOp, go_sem, d3, d4, cKP, cAP, i1, i2]
              · have hF1 := hSt.1
                have cKP : w1.cell? ⟨c.PL, 14, none⟩ = some (.slice (some ⟨p.KP, 0, none⟩) (c.n + 1) (c.n + 1)) := (hF1.st.pl.cell 14 (by omega)).trans (by rw [← hk.ekp]; rfl)
                have cAP : w1.cell? ⟨p.KP, i, none⟩ = some (.iface 64 (.pointer (some ⟨c.ap i, 0, none⟩))) := by have := (hF1.kp hkeep).cell i (by omega); rwa [Cfg.procM, if_neg (by omega)] at this
                have d5 : U[109]?.getD undef = .pointer (some ⟨p.KP, i, none⟩) := slot_of (chain_of (hdep ⟨5, .data⟩ (by simp) rfl (by decide)) rfl) rfl
                refine step_of_run (v := .iface 64 (.pointer (some ⟨c.ap i, 0, none⟩))) (w' := _) ?_ ⟨rfl, _, rfl, (fun h => by cases h), rfl⟩
                simp [execOp, go_sem, d5, cKP, cAP, i1, i2]
              · have hF1 := hSt.1
                have cKP : w1.cell? ⟨c.PL, 14, none⟩ = some (.slice (some ⟨p.KP, 0, none⟩) (c.n + 1) (c.n + 1)) := (hF1.st.pl.cell 14 (by omega)).trans (by rw [← hk.ekp]; rfl)
                have cAP : w1.cell? ⟨p.KP, i, none⟩ = some (.iface 64 (.pointer (some ⟨c.ap i, 0, none⟩))) := by have := (hF1.kp hkeep).cell i (by omega); rwa [Cfg.procM, if_neg (by omega)] at this
                have hx11 : U[11]?.getD undef = .int .i64 i := kept_of hK 11 (by decide) (by assumption)
                refine step_of_run (v := .int .i64 i) (w' := _) ?_ ⟨rfl, _, rfl, (fun h => by cases h), rfl⟩
                simp [execOp, go_sem, hx11, cKP, cAP, i1, i2]
              · have hF1 := hSt.1
                have cKP : w1.cell? ⟨c.PL, 14, none⟩ = some (.slice (some ⟨p.KP, 0, none⟩) (c.n + 1) (c.n + 1)) := (hF1.st.pl.cell 14 (by omega)).trans (by rw [← hk.ekp]; rfl)
                have cAP : w1.cell? ⟨p.KP, i, none⟩ = some (.iface 64 (.pointer (some ⟨c.ap i, 0, none⟩))) := by have := (hF1.kp hkeep).cell i (by omega); rwa [Cfg.procM, if_neg (by omega)] at this
                have hx10 : U[10]?.getD undef = .int .i64 r := kept_of hK 10 (by decide) (by assumption)
                refine step_of_run (v := .int .i64 r) (w' := _) ?_ ⟨rfl, _, rfl, (fun h => by cases h), rfl⟩
                simp [execOp, go_sem, hx10, cKP, cAP, i1, i2]
              · exact absurd (by decide) hia
              · have hF1 := hSt.1
                have cKP : w1.cell? ⟨c.PL, 14, none⟩ = some (.slice (some ⟨p.KP, 0, none⟩) (c.n + 1) (c.n + 1)) := (hF1.st.pl.cell 14 (by omega)).trans (by rw [← hk.ekp]; rfl)
                have cAP : w1.cell? ⟨p.KP, i, none⟩ = some (.iface 64 (.pointer (some ⟨c.ap i, 0, none⟩))) := by have := (hF1.kp hkeep).cell i (by omega); rwa [Cfg.procM, if_neg (by omega)] at this
                have d6 : U[110]?.getD undef = .iface 64 (.pointer (some ⟨c.ap i, 0, none⟩)) := slot_of (chain_of (hdep ⟨6, .data⟩ (by simp) rfl (by decide)) rfl) rfl
                refine step_of_run (v := .iface 64 (.pointer (some ⟨c.ap i, 0, none⟩))) (w' := _) ?_ ⟨rfl, _, rfl, (fun h => by cases h), rfl⟩
                simp [execOp, go_sem, d6, cKP, cAP, i1, i2]
              · have hF1 := hSt.1
                have cKP : w1.cell? ⟨c.PL, 14, none⟩ = some (.slice (some ⟨p.KP, 0, none⟩) (c.n + 1) (c.n + 1)) := (hF1.st.pl.cell 14 (by omega)).trans (by rw [← hk.ekp]; rfl)
                have cAP : w1.cell? ⟨p.KP, i, none⟩ = some (.iface 64 (.pointer (some ⟨c.ap i, 0, none⟩))) := by have := (hF1.kp hkeep).cell i (by omega); rwa [Cfg.procM, if_neg (by omega)] at this
                have d6 : U[110]?.getD undef = .iface 64 (.pointer (some ⟨c.ap i, 0, none⟩)) := slot_of (chain_of (hdep ⟨6, .data⟩ (by simp) rfl (by decide)) rfl) rfl
                have d10 : U[114]?.getD undef = .iface 64 (.pointer (some ⟨c.ap i, 0, none⟩)) := slot_of (chain_of (hdep ⟨10, .data⟩ (by simp) rfl (by decide)) rfl) rfl
                refine step_of_run (v := .iface 64 (.pointer (some ⟨c.ap i, 0, none⟩))) (w' := _) ?_ ⟨rfl, _, rfl, (fun h => by cases h), rfl⟩
                simp [execOp, go_sem, d6, d10, cKP, cAP, i1, i2]
              · exact absurd (by decide) hia
            · intro j hj hi U vs w1 hlen hU hK hSt hdep hprev
              have hj' : j < 2 := hj
              rcases (by omega : j = 0 ∨ j = 1) with rfl | rfl
              · obtain rfl : vs = [] := List.eq_nil_of_length_eq_zero hlen
                have d7 : U[111]?.getD undef = .int .i64 i := slot_of (chain_of (hdep ⟨7, .data⟩ (by simp) rfl (by decide)) rfl) rfl
                have d8 : U[112]?.getD undef = .int .i64 r := slot_of (chain_of (hdep ⟨8, .data⟩ (by simp) rfl (by decide)) rfl) rfl
                have hx9 : U[9]?.getD undef = .pointer (some ⟨p.X, 0, none⟩) := kept_of hK 9 (by decide) (by assumption)
                have hw1 : w1 = w6.drew := hSt.2
                subst hw1
                have hd0 : Only (fun _ => False) w6 w6.drew := Only.refl.drew
                have hmd : Mov c role p w6.drew (gotR c got r (i - 1)) ms (inbAt c p r i) dt (xs ++ recvsL c p r (i - 1)) g1 (evAt c p r i) cm y := HM6.out.same hl hd0
                obtain ⟨ev, he1, he2, he3⟩ := hmd.ev
                refine step_of_call (f := 26) (args := #[.pointer (some ⟨p.X, 0, none⟩), .int .i64 i, .int .i64 r]) (w' := w6.drew) ?_ ((eventsAt p.X i r p.EB c.L ev (evAt c p r i) w6.drew he1 he2 (evAt_len c role p hl r i) he3).mono ?_)
                · simp [execOp, go_sem, d7, d8, hx9]
                · rintro e w9 ⟨v1, rfl, q1, v2, q2, q3, q4, q5⟩
                  rw [(evAt_split c role p hl hkeep r i hin).1] at q1
                  rw [(evAt_split c role p hl hkeep r i hin).2] at q3
                  refine ⟨_, rfl, _, rfl, (fun h => by cases h), hSt.1.only hl q5 (fun b _ e => by rw [e]; exact touch_x hl), q1, hmd.evts hl q5 ⟨v2, q2, q3, q4⟩, (hd0.mono (fun _ _ e => e.elim)).trans' q5 (fun _ _ e => e)⟩
              · obtain ⟨v0, rfl⟩ : ∃ v0, vs = [v0] := by
                  match vs, hlen with | [v0], _ => exact ⟨v0, rfl⟩
                have p0 : U[113]?.getD undef = v0 := slot_of (hprev 0 (by decide)) rfl
                have d11 : U[115]?.getD undef = .iface 64 (.pointer (some ⟨c.ap i, 0, none⟩)) := slot_of (chain_of (hdep ⟨11, .data⟩ (by simp) rfl (by decide)) rfl) rfl
                obtain ⟨hF1, hv, hm1, ho1⟩ := hSt
                have hev : EvS w1 c.base c.L v0 (p.E r i) := by
                  rcases hv with hv | ⟨E, o, cap, e1, e2, e3, e4, e5, e6⟩
                  · exact .inl hv
                  · exact .inr ⟨E, o, cap, e1, by have := hl.eb c.base (.inl (Nat.le_refl _)); omega, e3, e4, e5, e6⟩
                refine step_of_call (f := 62) (args := #[.pointer (some ⟨c.ap i, 0, none⟩), v0]) (w' := w1) ?_ ((observe (c.ap i) c.L c.base i (c.dec i) (gotR c got r (i - 1) i) (xs ++ recvsL c p r (i - 1)) g1 w1 (hm1.pr i hi1 hin) (hl.ap.ne (hl.ap.ap i) hl.ap.log (by omega)) (hl.ap.bap i) hl.ap.blog hF1.st.bs hm1.lg (by have := recvsL_len c role p hl r (i - 1); simp; omega) (by omega) v0 (p.E r i) hev (fun e he => by have := hl.evs r i e he; exact ⟨by omega, by omega, this.2.2⟩) (by have := hl.evl r i; omega)).mono ?_)
                · simp [execOp, go_sem, methObserve, d11, p0]
                · rintro e w9 ⟨rfl, g2, q1, q2, q3⟩
                  exact ⟨_, rfl, _, rfl, (fun h => by cases h), hF1.only hl q3 (fun b _ e => touch_log hm1.lg hl b e), g2, hm1.log hl q3 q2 (by simpa [List.append_assoc] using q1), q2.trans' ho1.size, (ho1.mono (fun b _ e => by rw [e]; exact touch_x hl)).trans' q3 (fun b _ e => touch_log hm1.lg hl b e)⟩
            · intro V3 vs w7 hV3 hKV3 hlen3 hSt hval hall3
              obtain ⟨hF7, g7, hm7, hn7, ho7⟩ : Fixed c role p w7 ∧ ∃ g2, Mov c role p w7 (gotR c got r (i - 1)) ms (inbAt c p r i) dt (xs ++ recvsL c p r (i - 1) ++ [-4, (i : Int), ((p.E r i).length : Int)] ++ (p.E r i).flatMap Ev.code) g2 (evAt c p r (i + 1)) cm y ∧ NewG w6 g1 g2 ∧ Only (Touch c role) w6 w7 := by
                match vs, hlen3, hSt with
                | [_, _], _, h => exact h
              have hkX := (Keeps.trans HKW.out (Kept.keeps (lo := 12) (hi := 152) (vs := [11]) hKV3 (hV3.trans hW.symm) (by decide)))
              have HKX := hidP hkX
              have HMX := hidP hm7
              have HFX := hidP hF7
              have HOX := hidP (HO6.out.trans ho7)
              have HNX := hidP (HN1.out.trans hn7 (by have := HO6.out.size; omega))
              have HLX : Hid ((xs ++ recvsL c p r (i - 1) ++ [-4, (i : Int), ((p.E r i).length : Int)] ++ (p.E r i).flatMap Ev.code).length ≤ 900000) := hidP (by
                have := recvsL_len c role p hl r (i - 1)
                have := hl.evl r i
                simp only [List.length_append, codes_len, List.length_cons, List.length_nil]
                omega)
              have d11 : V3[11]'(by omega) = .int .i64 i := at_of _ (kept_of hKV3 11 (by decide) w11)
              have d0 := hkX.at' hV3 0 (by decide) t0 (by decide) (by decide)
              have d8 := hkX.at' hV3 8 (by decide) t8 (by decide) (by decide)
              have d10 := hkX.at' hV3 10 (by decide) t10 (by decide) (by decide)
              clear hSt hval hall3 hKV3 hF7 hm7 hn7 ho7 hkX hl hk w0 w9 w10 w11 c14 i1 i2
              have hIN : Row w7 c.IN 20 c.n (fun k => msgV (inbAt c p r i k)) := HMX.out.ib
              have cPR : w7.cell? ⟨c.PL, 10, none⟩ = some (.slice (some ⟨c.PR, 0, none⟩) (c.n + 1) (c.n + 1)) := HFX.out.st.pl.cell 10 (by omega)
              have cAQ : w7.cell? ⟨c.PR, i, none⟩ = some (.iface 64 (.pointer (some ⟨c.ap i, 0, none⟩))) := by have := HFX.out.st.pr.cell i (by omega); rwa [Cfg.procM, if_neg (by omega)] at this
              have hmr := methReceive
              have hlx : (xs ++ recvsL c p r (i - 1) ++ [-4, (i : Int), ((p.E r i).length : Int)] ++ (p.E r i).flatMap Ev.code).length ≤ 900000 := HLX.out
              clear hIN
              go_upto_region 12 with (go_at_call 63; refine (receive (c.ap i) c.L c.base i (c.dec i) (gotR c got r (i - 1) i) (xs ++ recvsL c p r (i - 1) ++ [-4, (i : Int), ((p.E r i).length : Int)] ++ (p.E r i).flatMap Ev.code) g7 w7 (HMX.out.pr i hi1 hin) (HL.out.ap.ne (HL.out.ap.ap i) HL.out.ap.log (by omega)) (HL.out.ap.bap i) HL.out.ap.blog HFX.out.st.bs HMX.out.lg hlx (by omega) r c.IN c.n (inbAt c p r i) (by omega) (by omega) HMX.out.ib HL.out.ap.bin (HL.out.ap.ne HL.out.ap.inb HL.out.ap.log (by decide)) (HL.out.ap.ne HL.out.ap.inb (HL.out.ap.ap i) (by omega)) (by have := gotR_le c got r (i - 1) i; have := HG.out i; omega)).mono ?_; rintro e w9 ⟨rfl, g9, m1, m2, m3, m4⟩)
              have hl := HL.out
              have hm9 := HMX.out.recv hl i hin m4 m2 m1 m3
              have ho9 : Only (Touch c role) w w9 := HOX.out.trans' m4 (fun b _ e => by
                rcases e with e | e
                · exact touch_log HMX.out.lg hl b e
                · rw [e]; exact touch_ap hl i)
              have hn9 : NewG w g g9 := HNX.out.trans m2 HOX.out.size
              have HM9 := hidP hm9
              have HO9 := hidP ho9
              have HN9 := hidP hn9
              clear hm9 ho9 hn9 m1 m2 m3 m4 hl cPR cAQ hmr
              refine gen_frame (fun V => V.size = 153 ∧ Keeps 12 152 [11] T V ∧ V[11]?.getD undef = .int .i64 i) ⟨by simp [hV3], ?_, by simp [hV3, d11]⟩ ?_
              · repeat (refine Keeps.put ?_ _ _ (by first | exact .inr ⟨by decide, by decide⟩ | exact .inl (by decide)))
                exact HKX.out
              rintro Z ⟨hZ, hKZ, z11⟩
              have e11 : Z[11]'(by omega) = _ := at_of _ z11
              have HKZ := hidP hKZ
              clear hKZ z11
              go_wp2_with fail
              first | refine ⟨trivial, k - 1, by omega, ?_⟩ | refine ⟨k - 1, by omega, ?_⟩
              rw [HI.out]
              refine ⟨i + 1, by omega, by omega, ?_, by simp [hZ], g9, inbAt c p r i, ?_, HN9.out, HO9.out⟩
              · repeat (refine Keeps.put ?_ _ _ (by first | exact .inr ⟨by decide, by decide⟩ | exact .inl (by decide)))
                exact HKZ.out
              · have h9 := HM9.out
                rw [← gotR_new c got r i hi1 hcc] at h9
                have e2 : recvsL c p r (i + 1 - 1) = recvsL c p r (i - 1) ++ recvL c p r i := by
                  rw [show i + 1 - 1 = i - 1 + 1 by omega, recvsL_succ, show i - 1 + 1 = i by omega]
                rw [e2]
                have e3 : recvL c p r i = ([-4, (i : Int), ((p.E r i).length : Int)] ++ (p.E r i).flatMap Ev.code) ++ [(i : Int), (r : Int)] ++ (List.range c.n).map (fun k => codeOf (inbAt c p r i k)) := by
                  unfold recvL
                  rw [hcc, hkeep]
                  rfl
                rw [e3]
                simpa [List.append_assoc] using h9
          | false =>
            rw [hl.nokeep hkeep] at c14
            clear hl
            go_upto_if 103 with fail
            refine wp_cond_at false (by simp [Act.eval, hW]) (fun h => by cases h) (fun _ => ?_)
            refine gen_frame (fun V => V.size = 153 ∧ Keeps 12 152 [11] T V ∧ V[11]?.getD undef = .int .i64 i) ⟨by simp [hW], ?_, by simp [hW, f11]⟩ ?_
            · repeat (refine Keeps.put ?_ _ _ (by first | exact .inr ⟨by decide, by decide⟩ | exact .inl (by decide)))
              exact HKW.out
            clear e0 e5 e6 e7 e8 e9 e10 w11 f11 HKW hW c14
            rintro V3 ⟨hV3, hkX, w11⟩
            have d11 : V3[11]'(by omega) = _ := at_of _ w11
            have d0 := hkX.at' hV3 0 (by decide) t0 (by decide) (by decide)
            have d8 := hkX.at' hV3 8 (by decide) t8 (by decide) (by decide)
            have d10 := hkX.at' hV3 10 (by decide) t10 (by decide) (by decide)
            have hevn : evAt c p r i = evAt c p r (i + 1) := by
              rw [evAt_step c p r i hin, hkeep]
              simp
            have hm7 := HM6.out
            rw [hevn] at hm7
            have HKX := hidP hkX
            have HMX := hidP hm7
            have HFX := hidP HF6.out
            have HOX := hidP HO6.out
            have HNX := hidP HN1.out
            have HLX : Hid ((xs ++ recvsL c p r (i - 1)).length ≤ 900000) := hidP (by
              have := recvsL_len c role p HL.out r (i - 1)
              simp only [List.length_append]
              omega)
            clear hm7 hkX w11 hevn
            have hIN : Row w6 c.IN 20 c.n (fun k => msgV (inbAt c p r i k)) := HMX.out.ib
            have cPR : w6.cell? ⟨c.PL, 10, none⟩ = some (.slice (some ⟨c.PR, 0, none⟩) (c.n + 1) (c.n + 1)) := HFX.out.st.pl.cell 10 (by omega)
            have cAQ : w6.cell? ⟨c.PR, i, none⟩ = some (.iface 64 (.pointer (some ⟨c.ap i, 0, none⟩))) := by have := HFX.out.st.pr.cell i (by omega); rwa [Cfg.procM, if_neg (by omega)] at this
            have hmr := methReceive
            have hlx : (xs ++ recvsL c p r (i - 1)).length ≤ 900000 := HLX.out
            clear hIN
            go_upto_region 12 with (go_at_call 63; refine (receive (c.ap i) c.L c.base i (c.dec i) (gotR c got r (i - 1) i) (xs ++ recvsL c p r (i - 1)) g1 w6 (HMX.out.pr i hi1 hin) (HL.out.ap.ne (HL.out.ap.ap i) HL.out.ap.log (by omega)) (HL.out.ap.bap i) HL.out.ap.blog HFX.out.st.bs HMX.out.lg hlx (by omega) r c.IN c.n (inbAt c p r i) (by omega) (by omega) HMX.out.ib HL.out.ap.bin (HL.out.ap.ne HL.out.ap.inb HL.out.ap.log (by decide)) (HL.out.ap.ne HL.out.ap.inb (HL.out.ap.ap i) (by omega)) (by have := gotR_le c got r (i - 1) i; have := HG.out i; omega)).mono ?_; rintro e w9 ⟨rfl, g9, m1, m2, m3, m4⟩)
            have hl := HL.out
            have hm9 := HMX.out.recv hl i hin m4 m2 m1 m3
            have ho9 : Only (Touch c role) w w9 := HOX.out.trans' m4 (fun b _ e => by
              rcases e with e | e
              · exact touch_log HMX.out.lg hl b e
              · rw [e]; exact touch_ap hl i)
            have hn9 : NewG w g g9 := HNX.out.trans m2 HOX.out.size
            have HM9 := hidP hm9
            have HO9 := hidP ho9
            have HN9 := hidP hn9
            clear hm9 ho9 hn9 m1 m2 m3 m4 hl cPR cAQ hmr
            refine gen_frame (fun V => V.size = 153 ∧ Keeps 12 152 [11] T V ∧ V[11]?.getD undef = .int .i64 i) ⟨by simp [hV3], ?_, by simp [hV3, d11]⟩ ?_
            · repeat (refine Keeps.put ?_ _ _ (by first | exact .inr ⟨by decide, by decide⟩ | exact .inl (by decide)))
              exact HKX.out
            rintro Z ⟨hZ, hKZ, z11⟩
            have e11 : Z[11]'(by omega) = _ := at_of _ z11
            have HKZ := hidP hKZ
            clear hKZ z11
            go_wp2_with fail
            first | refine ⟨trivial, k - 1, by omega, ?_⟩ | refine ⟨k - 1, by omega, ?_⟩
            rw [HI.out]
            refine ⟨i + 1, by omega, by omega, ?_, by simp [hZ], g9, inbAt c p r i, ?_, HN9.out, HO9.out⟩
            · repeat (refine Keeps.put ?_ _ _ (by first | exact .inr ⟨by decide, by decide⟩ | exact .inl (by decide)))
              exact HKZ.out
            · have h9 := HM9.out
              rw [← gotR_new c got r i hi1 hcc] at h9
              have e2 : recvsL c p r (i + 1 - 1) = recvsL c p r (i - 1) ++ recvL c p r i := by
                rw [show i + 1 - 1 = i - 1 + 1 by omega, recvsL_succ, show i - 1 + 1 = i by omega]
              rw [e2]
              have e3 : recvL c p r i = ([] : List Int) ++ [(i : Int), (r : Int)] ++ (List.range c.n).map (fun k => codeOf (inbAt c p r i k)) := by
                unfold recvL
                rw [hcc, hkeep]
                rfl
              rw [e3]
              simpa [List.append_assoc] using h9
    · have hin : i - 1 = c.n := by have := of_decide_eq_false h; omega
      have hin2 : i = c.n + 1 := by omega
      clear h
      go_wp2_with fail
      have hm1 := HM1.out
      rw [hin] at hm1
      rw [hin2] at hm1
      refine HQ.out _ _ g1 ib1 ?_ hm1 HN1.out HO1.out
      repeat (refine Keeps.put ?_ _ _ (by first | exact .inr ⟨by decide, by decide⟩ | exact .inl (by decide)))
      exact HK.out
  · rw [HI.out]
    refine ⟨1, by omega, by omega, Keeps.refl, t11, g, ib, ?_, NewG.refl _ _, Only.refl⟩
    have e : gotR c got r (1 - 1) = got := by
      funext q
      unfold gotR
      rw [if_neg (by omega)]
    rw [e]
    simpa [recvsL] using HM.out
end Go.Proofs.Ybulkcawy
