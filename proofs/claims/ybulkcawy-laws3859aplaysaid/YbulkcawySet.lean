/-
  failurePattern.set.
-/
import Derived.Test.YbulkcawySet6
namespace Go.Proofs.Ybulkcawy
open Go.RowKit
set_option linter.unusedSimpArgs false
set_option linter.unusedVariables false
set_option maxRecDepth 100000
set_option maxHeartbeats 4000000

/-- What 'set' leaves. -/
def SetPost (d : SB) (w w' : World) : Prop := ∃ fav fl reV loV, PS d w' fav fl (crF d.last d.cl) reV (reF d.last d.cl) loV (lovF d.ol) (mmF d d.ol) (loF d d.ol) ∧ (∀ q, 1 ≤ q → q ≤ d.n → crF d.last d.cl q ≠ 0 → reV q ≠ .slice none 0 0) ∧ (∀ q, q ∈ fl ↔ q ∈ flF d.last d.cl ∨ (crF d.last d.cl q = 0 ∧ hasF d.ol q = true)) ∧ fl.length ≤ 2000 ∧ (∀ q ∈ fl, 1 ≤ q ∧ q ≤ d.n) ∧ (∀ q, q ≤ d.n → crF d.last d.cl q = 0 → reV q = .slice none 0 0) ∧ (∀ q, q ≤ d.n → hasF d.ol q = false → loV q = .slice none 0 0) ∧ (fl = [] → fav = .slice none 0 0) ∧ Only (SetS d) w w'

theorem setF (d : SB) (role : Nat → Nat) (ok : SBok d role) (w : World) (hB : d.B = w.heap.size) (hhi : d.hi = w.heap.size + 1) (hP : Row w d.P d.tP d.NP d.mP) (h4 : d.mP (d.o + 4) = .slice none 0 0) (hC : Row w d.C 3 (d.n + 1) (fun _ => .int .i64 0)) (hR : Row w d.R 92 (d.n + 1) (fun _ => .slice none 0 0)) (hLo : Row w d.Lo 92 (d.n + 1) (fun _ => .slice none 0 0)) (hLO : Row w d.LO 3 (d.n + 1) (fun _ => .int .i64 0))
    (hcs : FailS w d.EB d.cv d.cl) (hos : FailS w d.EB d.ov d.ol) :
    Calls Yba.prog 23 #[.pointer (some ⟨d.P, d.o, none⟩), .agg #[d.cv, d.ov]] w fun e w' => e = .returned (.tuple #[]) ∧ SetPost d w w' := by
  have OK := hidP ok
  have hn6 := ok.n6
  obtain ⟨ca, cc, hcv⟩ := hcs.form
  obtain ⟨oa, oc, hov⟩ := hos.form
  have HP := hidP hP
  have HC := hidP hC
  have HR := hidP hR
  have HLo := hidP hLo
  have HLO := hidP hLO
  have HCS := hidP hcs
  have HOS := hidP hos
  have HHI := hidP hhi
  have HB := hidP hB
  have H4 := hidP h4
  have HCV := hidP hcv
  have HOV := hidP hov
  rw [hcv, hov]
  clear hP hC hR hLo hLO hcs hos hhi hB ok h4 hcv hov
  refine calls_of_wp Yba.func23 rfl ?_
  refine gen_frame (fun U => U.size = 236 ∧ U[0]?.getD undef = .pointer (some ⟨d.P, d.o, none⟩) ∧ U[1]?.getD undef = .agg #[.slice ca d.cl.length cc, .slice oa d.ol.length oc]) ⟨by simp [Yba.ntmps23], by simp [Yba.ntmps23], by simp [Yba.ntmps23]⟩ ?_
  rintro T ⟨hT0, t0, t1⟩
  have a0 : T[0]'(by omega) = _ := at_of _ t0
  have a1 : T[1]'(by omega) = _ := at_of _ t1
  go_upto_region 1 with fail
  refine gen_both (fun U w' => U.size = 236 ∧ Keeps 2 235 [] T U ∧ U[3]?.getD undef = .pointer (some ⟨d.B, 0, none⟩) ∧ Row w' d.B 62 2 (fun k => if k = 0 then d.cv else d.ov) ∧ Only (fun _ => False) w w' ∧ w'.heap.size = w.heap.size + 1) ⟨by simp [hT0], ?_, by simp [hT0, HB.out], ?_, Only.refl.alloc _, by simp⟩ ?_
  · repeat (refine Keeps.put ?_ _ _ (by first | exact .inr ⟨by decide, by decide⟩ | exact .inl (by decide)))
    exact Keeps.refl
  · rw [HB.out]
    refine (Row.newL w [.slice ca d.cl.length cc, .slice oa d.ol.length oc] 62).ext fun x hx => ?_
    have hx' : x < 2 := hx
    rcases (by omega : x = 0 ∨ x = 1) with rfl | rfl <;> simp [HCV.out, HOV.out]
  clear a0 a1
  rintro U w1a ⟨hU, hKU, u3, hB1, ho1, hs1⟩
  have u0 := hKU.get t0 (by decide) (by decide)
  have hP1 := HP.out.only ho1 (fun h => h)
  have cP1 : w1a.cell? ⟨d.P, d.o + 1, none⟩ = some (.slice (some ⟨d.C, 0, none⟩) (d.n + 1) (d.n + 1)) := by have := hP1.cell (d.o + 1) (by have := OK.out.o5; omega); rwa [OK.out.m1] at this
  have HCC := hidP (HC.out.only ho1 (fun h => h))
  have HP1 := hidP hP1
  have HB1 := hidP hB1
  have HO1 := hidP ho1
  have HKU := hidP hKU
  have key : ∀ a b, role a ≠ role b → a ≠ b := fun a b h e => h (by rw [e])
  clear hP1 hB1 ho1 hKU
  refine region_plainW _ 236 hU [.pointer (some ⟨d.P, d.o, none⟩), .pointer (some ⟨d.P, d.o, none⟩), .pointer (some ⟨d.P, d.o + 1, none⟩), .slice (some ⟨d.C, 0, none⟩) (d.n + 1) (d.n + 1), undef] (fun i w1 => if i ≤ 4 then w1 = w1a else (Row w1 d.C 3 (d.n + 1) (fun _ => .int .i64 0) ∧ Only (fun x => x = d.C) w1a w1)) w1a rfl (by decide) (by decide) ?_ ?_
  · intro i hi U w1 hSt hU hK hprev
    have hi' : i < 5 := hi
    rcases (by omega : i = 0 ∨ i = 1 ∨ i = 2 ∨ i = 3 ∨ i = 4) with rfl | rfl | rfl | rfl | rfl
    · have hw1 : w1 = w1a := hSt
      subst hw1
      have hx0 : U[0]?.getD undef = .pointer (some ⟨d.P, d.o, none⟩) := kept_of hK 0 (by decide) (by assumption)
      refine .inl ⟨want_none rfl, ?_⟩
      refine step_of_run (v := .pointer (some ⟨d.P, d.o, none⟩)) (w' := _) ?_ ⟨rfl, _, rfl, (fun h => by cases h), rfl⟩
      simp [execOp, go_sem, hx0, cP1]
    · have hw1 : w1 = w1a := hSt
      subst hw1
      have d0 : U[17]?.getD undef = .pointer (some ⟨d.P, d.o, none⟩) := slot_of (hprev 0 (by decide)) rfl
      refine .inl ⟨want_none rfl, ?_⟩
      refine step_of_run (v := .pointer (some ⟨d.P, d.o, none⟩)) (w' := _) ?_ ⟨rfl, _, rfl, (fun h => by cases h), rfl⟩
      simp [execOp, go_sem, d0, cP1]
    · have hw1 : w1 = w1a := hSt
      subst hw1
      have d1 : U[18]?.getD undef = .pointer (some ⟨d.P, d.o, none⟩) := slot_of (hprev 1 (by decide)) rfl
      refine .inl ⟨want_none rfl, ?_⟩
      refine step_of_run (v := .pointer (some ⟨d.P, d.o + 1, none⟩)) (w' := _) ?_ ⟨rfl, _, rfl, (fun h => by cases h), rfl⟩
      simp [execOp, go_sem, d1, cP1]
    · have hw1 : w1 = w1a := hSt
      subst hw1
      have d2 : U[19]?.getD undef = .pointer (some ⟨d.P, d.o + 1, none⟩) := slot_of (hprev 2 (by decide)) rfl
      refine .inl ⟨want_none rfl, ?_⟩
      refine step_of_run (v := .slice (some ⟨d.C, 0, none⟩) (d.n + 1) (d.n + 1)) (w' := _) ?_ ⟨rfl, _, rfl, (fun h => by cases h), rfl⟩
      simp [execOp, go_sem, d2, cP1]
    · have hw1 : w1 = w1a := hSt
      subst hw1
      have d3 : U[20]?.getD undef = .slice (some ⟨d.C, 0, none⟩) (d.n + 1) (d.n + 1) := slot_of (hprev 3 (by decide)) rfl
      refine .inl ⟨want_none rfl, ?_⟩
      obtain ⟨w9, hc1, hc2, hc3⟩ := clearInts w1 d.C (d.n + 1) (d.n + 1) 0 (by omega) _ HCC.out
      refine step_of_run (v := .tuple #[]) (w' := w9) ?_ ⟨⟨hc2, hc3⟩, undef, rfl, (fun _ => rfl), rfl⟩
      simp [execOp, go_sem, d3, hc1]
  · intro V w2 hSt hV hKV hall
    obtain ⟨hC2, ho2⟩ : Row w2 d.C 3 (d.n + 1) (fun _ => .int .i64 0) ∧ Only (fun x => x = d.C) w1a w2 := hSt
    have hKV2 := Keeps.trans HKU.out (Kept.keeps (lo := 2) (hi := 235) (vs := []) hKV (hV.trans hU.symm) (by decide))
    have v0 := hKV2.get t0 (by decide) (by decide)
    have v3 : V[3]?.getD undef = .pointer (some ⟨d.B, 0, none⟩) := kept_of hKV 3 (by decide) u3
    have hP2 := HP1.out.only ho2 (key _ _ (by rw [OK.out.P, OK.out.C]; decide))
    have cP3 : w2.cell? ⟨d.P, d.o + 3, none⟩ = some (.slice (some ⟨d.Lo, 0, none⟩) (d.n + 1) (d.n + 1)) := by have := hP2.cell (d.o + 3) (by have := OK.out.o5; omega); rwa [OK.out.m3] at this
    have HC2 := hidP hC2
    have HP2 := hidP hP2
    have HO2 := hidP ho2
    have HLo2 := hidP ((HLo.out.only HO1.out (fun h => h)).only ho2 (key _ _ (by rw [OK.out.Lo, OK.out.C]; decide)))
    have HKV := hidP hKV2
    clear hKV hall hKV2 hP2 hC2 ho2 u0 u3 cP1
    go_upto_region 2 with fail
    refine region_plainW _ 236 hV [.pointer (some ⟨d.P, d.o, none⟩), .pointer (some ⟨d.P, d.o, none⟩), .pointer (some ⟨d.P, d.o + 3, none⟩), .slice (some ⟨d.Lo, 0, none⟩) (d.n + 1) (d.n + 1), undef] (fun i w1 => if i ≤ 4 then w1 = w2 else (Row w1 d.Lo 92 (d.n + 1) (fun _ => .slice none 0 0) ∧ Only (fun x => x = d.Lo) w2 w1)) w2 rfl (by decide) (by decide) ?_ ?_
    · intro i hi U w1 hSt hU hK hprev
      have hi' : i < 5 := hi
      rcases (by omega : i = 0 ∨ i = 1 ∨ i = 2 ∨ i = 3 ∨ i = 4) with rfl | rfl | rfl | rfl | rfl
      · have hw1 : w1 = w2 := hSt
        subst hw1
        have hx0 : U[0]?.getD undef = .pointer (some ⟨d.P, d.o, none⟩) := kept_of hK 0 (by decide) (by assumption)
        refine .inl ⟨want_none rfl, ?_⟩
        refine step_of_run (v := .pointer (some ⟨d.P, d.o, none⟩)) (w' := _) ?_ ⟨rfl, _, rfl, (fun h => by cases h), rfl⟩
        simp [execOp, go_sem, hx0, cP3]
      · have hw1 : w1 = w2 := hSt
        subst hw1
        have d0 : U[21]?.getD undef = .pointer (some ⟨d.P, d.o, none⟩) := slot_of (hprev 0 (by decide)) rfl
        refine .inl ⟨want_none rfl, ?_⟩
        refine step_of_run (v := .pointer (some ⟨d.P, d.o, none⟩)) (w' := _) ?_ ⟨rfl, _, rfl, (fun h => by cases h), rfl⟩
        simp [execOp, go_sem, d0, cP3]
      · have hw1 : w1 = w2 := hSt
        subst hw1
        have d1 : U[22]?.getD undef = .pointer (some ⟨d.P, d.o, none⟩) := slot_of (hprev 1 (by decide)) rfl
        refine .inl ⟨want_none rfl, ?_⟩
        refine step_of_run (v := .pointer (some ⟨d.P, d.o + 3, none⟩)) (w' := _) ?_ ⟨rfl, _, rfl, (fun h => by cases h), rfl⟩
        simp [execOp, go_sem, d1, cP3]
      · have hw1 : w1 = w2 := hSt
        subst hw1
        have d2 : U[23]?.getD undef = .pointer (some ⟨d.P, d.o + 3, none⟩) := slot_of (hprev 2 (by decide)) rfl
        refine .inl ⟨want_none rfl, ?_⟩
        refine step_of_run (v := .slice (some ⟨d.Lo, 0, none⟩) (d.n + 1) (d.n + 1)) (w' := _) ?_ ⟨rfl, _, rfl, (fun h => by cases h), rfl⟩
        simp [execOp, go_sem, d2, cP3]
      · have hw1 : w1 = w2 := hSt
        subst hw1
        have d3 : U[24]?.getD undef = .slice (some ⟨d.Lo, 0, none⟩) (d.n + 1) (d.n + 1) := slot_of (hprev 3 (by decide)) rfl
        refine .inl ⟨want_none rfl, ?_⟩
        obtain ⟨w9, hc1, hc2, hc3⟩ := clearSlices w1 d.Lo (d.n + 1) (d.n + 1) 0 (by omega) _ HLo2.out
        refine step_of_run (v := .tuple #[]) (w' := w9) ?_ ⟨⟨hc2, hc3⟩, undef, rfl, (fun _ => rfl), rfl⟩
        simp [execOp, go_sem, d3, hc1]
    · intro W w3 hSt hW hKW hall
      obtain ⟨hLo3, ho3⟩ : Row w3 d.Lo 92 (d.n + 1) (fun _ => .slice none 0 0) ∧ Only (fun x => x = d.Lo) w2 w3 := hSt
      have hKW2 := Keeps.trans HKV.out (Kept.keeps (lo := 2) (hi := 235) (vs := []) hKW (hW.trans hV.symm) (by decide))
      have a0 := hKW2.at' hW 0 (by decide) t0 (by decide) (by decide)
      have a3 : W[3]'(by omega) = .pointer (some ⟨d.B, 0, none⟩) := at_of _ (kept_of hKW 3 (by decide) v3)
      have hP3 := HP2.out.only ho3 (key _ _ (by rw [OK.out.P, OK.out.Lo]; decide))
      have cP4 : w3.cell? ⟨d.P, d.o + 4, none⟩ = some (.slice none 0 0) := by have := hP3.cell (d.o + 4) (by have := OK.out.o5; omega); rwa [H4.out] at this
      have fP4 := hP3.frozen (d.o + 4)
      have hB3 : Row w3 d.B 62 2 (fun k => if k = 0 then d.cv else d.ov) := (HB1.out.only HO2.out (key _ _ (by rw [OK.out.B, OK.out.C]; decide))).only ho3 (key _ _ (by rw [OK.out.B, OK.out.Lo]; decide))
      obtain ⟨w4, hw4⟩ : ∃ w4, w3.setCell ⟨d.P, d.o + 4, none⟩ (.slice none 0 0) = w4 := ⟨_, rfl⟩
      have ho4 : Only (fun x => x = d.P) w3 w4 := by rw [← hw4]; exact Only.setCell (S := fun x => x = d.P) Only.refl (p := ⟨d.P, d.o + 4, none⟩) (fun _ => rfl) _
      have hz4 : w4.heap.size = w3.heap.size := by rw [← hw4]; simp [World.setCell]
      have ho14 : Only (SetS d) w w4 := ((((HO1.out.mono (S' := SetS d) (fun _ _ h => h.elim)).trans' HO2.out (fun b _ e => .inr (.inl e))).trans' ho3 (fun b _ e => .inr (.inr (.inr (.inl e))))).trans' ho4 (fun b _ e => .inl e))
      have hEB : ∀ b, b < w.heap.size → SetS d b → d.EB ≤ b := fun b _ e => by
        have := OK.out.eP
        have := OK.out.eC
        have := OK.out.eR
        have := OK.out.eLo
        have := OK.out.eLO
        have := OK.out.bP
        rcases e with e | e | e | e | e | e <;> omega
      have hps4 : PS d w4 (.slice none 0 0) [] (fun _ => 0) (fun _ => .slice none 0 0) (fun _ _ => false) (fun _ => .slice none 0 0) (fun _ => 0) (fun _ => 0) (fun _ _ => false) := by
        refine ⟨?_, ⟨rfl, .inl ⟨rfl, rfl⟩⟩, ?_, ?_, hLo3.only ho4 (key _ _ (by rw [OK.out.Lo, OK.out.P]; decide)), ?_, hB3.only ho4 (key _ _ (by rw [OK.out.B, OK.out.P]; decide)), HCS.out.only ho14 hEB, HOS.out.only ho14 hEB, ?_, fun _ _ _ => .inl rfl, fun _ _ _ => .inl ⟨rfl, rfl⟩, fun q q' b _ _ _ _ _ h => by simp [Value.ownBlock] at h, fun q q' b _ _ _ _ h => by simp [Value.ownBlock] at h⟩
        · rw [← hw4]
          exact (hP3.set (d.o + 4) _).ext fun k hk => by simp
        · exact (HC2.out.only ho3 (key _ _ (by rw [OK.out.C, OK.out.Lo]; decide))).only ho4 (key _ _ (by rw [OK.out.C, OK.out.P]; decide))
        · exact (((HR.out.only HO1.out (fun h => h)).only HO2.out (key _ _ (by rw [OK.out.R, OK.out.C]; decide))).only ho3 (key _ _ (by rw [OK.out.R, OK.out.Lo]; decide))).only ho4 (key _ _ (by rw [OK.out.R, OK.out.P]; decide))
        · exact (((HLO.out.only HO1.out (fun h => h)).only HO2.out (key _ _ (by rw [OK.out.LO, OK.out.C]; decide))).only ho3 (key _ _ (by rw [OK.out.LO, OK.out.Lo]; decide))).only ho4 (key _ _ (by rw [OK.out.LO, OK.out.P]; decide))
        · have := HO2.out.size
          have := ho3.size
          have := HHI.out
          omega
      have cB0 : w4.cell? ⟨d.B, 0, none⟩ = some (.slice ca d.cl.length cc) := by have := hps4.B.cell 0 (by omega); rwa [if_pos rfl, HCV.out] at this
      have HPS4 := hidP hps4
      have HO14 := hidP ho14
      have HKW := hidP hKW2
      clear hKW hall hKW2 hP3 hB3 hLo3 ho3 ho4 hz4 ho14 hEB hps4 v0 v3 cP3
      go_upto_block 0 with fail
      have hks : ∃ X : Array Value, Keeps 2 235 [] T X ∧ X.size = 236 := ⟨W, HKW.out, hW⟩
      refine gen_both (fun X w' => w' = w4 ∧ X.size = 236 ∧ Keeps 2 235 [] T X ∧ X[3]?.getD undef = .pointer (some ⟨d.B, 0, none⟩) ∧ X[34]?.getD undef = d.cv ∧ X[35]?.getD undef = .int .i64 d.cl.length ∧ X[36]?.getD undef = .int .i64 0) ⟨rfl, by simp [hW], ?_, by simp [hW, a3], by simp [hW, HCV.out], by simp [hW], by simp [hW]⟩ ?_
      · repeat (refine Keeps.put ?_ _ _ (by first | exact .inr ⟨by decide, by decide⟩ | exact .inl (by decide)))
        exact HKW.out
      rintro X0 wX ⟨rfl, hX0, hKX0, x3, x34, x35, x36⟩
      refine set0 d role OK.out (fun _ _ => false) wX HPS4.out X0 _ hX0 (hKX0.get t0 (by decide) (by decide)) x34 x35 x36 ?_
      intro X w5 fav reV hKX hps5 hrn hrnil hfe5 ho5
      have hKX2 : Keeps 2 235 [] T X := Keeps.trans hKX0 (hKX.mono (fun _ h => by simp at h) (by decide) (by decide))
      have hX : X.size = 236 := hKX2.1.trans hT0
      have x3' : X[3]?.getD undef = .pointer (some ⟨d.B, 0, none⟩) := hKX.get x3 (by decide) (by decide)
      have x0 := hKX2.get t0 (by decide) (by decide)
      have cP5 : w5.cell? ⟨d.P, d.o + 5, none⟩ = some (.slice (some ⟨d.LO, 0, none⟩) (d.n + 1) (d.n + 1)) := by have := hps5.P.cell (d.o + 5) (by have := OK.out.o5; omega); rwa [if_neg (by omega), OK.out.m5] at this
      have HPS5 := hidP hps5
      have HRN := hidP hrn
      have HRNIL := hidP hrnil
      have HFE5 := hidP hfe5
      have HO5 := hidP (HO14.out.trans ho5)
      have HKX := hidP hKX2
      clear hps5 hrn hrnil hfe5 ho5 hKX hKX2 hKX0 x3 x34 x35 x36 a0 a3 cB0 cP4 fP4 hw4 hks HKW
      go_upto_region 20 with fail
      refine region_plainW _ 236 hX [.pointer (some ⟨d.P, d.o, none⟩), .pointer (some ⟨d.P, d.o, none⟩), .pointer (some ⟨d.P, d.o + 5, none⟩), .slice (some ⟨d.LO, 0, none⟩) (d.n + 1) (d.n + 1), undef] (fun i w1 => if i ≤ 4 then w1 = w5 else (Row w1 d.LO 3 (d.n + 1) (fun _ => .int .i64 0) ∧ Only (fun x => x = d.LO) w5 w1)) w5 rfl (by decide) (by decide) ?_ ?_
      · intro i hi U w1 hSt hU hK hprev
        have hi' : i < 5 := hi
        rcases (by omega : i = 0 ∨ i = 1 ∨ i = 2 ∨ i = 3 ∨ i = 4) with rfl | rfl | rfl | rfl | rfl
        · have hw1 : w1 = w5 := hSt
          subst hw1
          have hx0 : U[0]?.getD undef = .pointer (some ⟨d.P, d.o, none⟩) := kept_of hK 0 (by decide) (by assumption)
          refine .inl ⟨want_none rfl, ?_⟩
          refine step_of_run (v := .pointer (some ⟨d.P, d.o, none⟩)) (w' := _) ?_ ⟨rfl, _, rfl, (fun h => by cases h), rfl⟩
          simp [execOp, go_sem, hx0, cP5]
        · have hw1 : w1 = w5 := hSt
          subst hw1
          have d0 : U[112]?.getD undef = .pointer (some ⟨d.P, d.o, none⟩) := slot_of (hprev 0 (by decide)) rfl
          refine .inl ⟨want_none rfl, ?_⟩
          refine step_of_run (v := .pointer (some ⟨d.P, d.o, none⟩)) (w' := _) ?_ ⟨rfl, _, rfl, (fun h => by cases h), rfl⟩
          simp [execOp, go_sem, d0, cP5]
        · have hw1 : w1 = w5 := hSt
          subst hw1
          have d1 : U[113]?.getD undef = .pointer (some ⟨d.P, d.o, none⟩) := slot_of (hprev 1 (by decide)) rfl
          refine .inl ⟨want_none rfl, ?_⟩
          refine step_of_run (v := .pointer (some ⟨d.P, d.o + 5, none⟩)) (w' := _) ?_ ⟨rfl, _, rfl, (fun h => by cases h), rfl⟩
          simp [execOp, go_sem, d1, cP5]
        · have hw1 : w1 = w5 := hSt
          subst hw1
          have d2 : U[114]?.getD undef = .pointer (some ⟨d.P, d.o + 5, none⟩) := slot_of (hprev 2 (by decide)) rfl
          refine .inl ⟨want_none rfl, ?_⟩
          refine step_of_run (v := .slice (some ⟨d.LO, 0, none⟩) (d.n + 1) (d.n + 1)) (w' := _) ?_ ⟨rfl, _, rfl, (fun h => by cases h), rfl⟩
          simp [execOp, go_sem, d2, cP5]
        · have hw1 : w1 = w5 := hSt
          subst hw1
          have d3 : U[115]?.getD undef = .slice (some ⟨d.LO, 0, none⟩) (d.n + 1) (d.n + 1) := slot_of (hprev 3 (by decide)) rfl
          refine .inl ⟨want_none rfl, ?_⟩
          obtain ⟨w9, hc1, hc2, hc3⟩ := clearInts w1 d.LO (d.n + 1) (d.n + 1) 0 (by omega) _ HPS5.out.LO
          refine step_of_run (v := .tuple #[]) (w' := w9) ?_ ⟨⟨hc2, hc3⟩, undef, rfl, (fun _ => rfl), rfl⟩
          simp [execOp, go_sem, d3, hc1]
      · intro Y w6 hSt hY hKY hall
        obtain ⟨hLO6, ho6⟩ : Row w6 d.LO 3 (d.n + 1) (fun _ => .int .i64 0) ∧ Only (fun x => x = d.LO) w5 w6 := hSt
        have hKY2 := Keeps.trans HKX.out (Kept.keeps (lo := 2) (hi := 235) (vs := []) hKY (hY.trans hX.symm) (by decide))
        have y3 : Y[3]'(by omega) = .pointer (some ⟨d.B, 0, none⟩) := at_of _ (kept_of hKY 3 (by decide) x3')
        have hps6 := HPS5.out.setLO (lov' := fun _ => 0) OK.out ho6 hLO6
        have cB1 : w6.cell? ⟨d.B, 1, none⟩ = some (.slice oa d.ol.length oc) := by have := hps6.B.cell 1 (by omega); rwa [if_neg (by omega), HOV.out] at this
        have HPS6 := hidP hps6
        have HO6 := hidP (HO5.out.trans' ho6 (fun b _ e => .inr (.inr (.inr (.inr (.inl e))))))
        have HKY := hidP hKY2
        clear hKY hall hKY2 hps6 hLO6 ho6 x3' x0 cP5
        go_upto_block 4 with fail
        refine gen_both (fun X w' => w' = w6 ∧ X.size = 236 ∧ Keeps 2 235 [] T X ∧ X[3]?.getD undef = .pointer (some ⟨d.B, 0, none⟩) ∧ X[117]?.getD undef = d.ov ∧ X[118]?.getD undef = .int .i64 d.ol.length ∧ X[119]?.getD undef = .int .i64 0) ⟨rfl, by simp [hY], ?_, by simp [hY, y3], by simp [hY, HOV.out], by simp [hY], by simp [hY]⟩ ?_
        · repeat (refine Keeps.put ?_ _ _ (by first | exact .inr ⟨by decide, by decide⟩ | exact .inl (by decide)))
          exact HKY.out
        rintro X1 w6' ⟨rfl, hX1, hKX1, x3, x34, x35, x36⟩
        refine set4 d role OK.out fav _ _ reV _ _ _ _ w6' HPS6.out X1 _ hX1 (hKX1.get t0 (by decide) (by decide)) x34 x35 x36 ?_
        intro X2 w7 hKX2 hps7 ho7
        have hKZ : Keeps 2 235 [] T X2 := Keeps.trans hKX1 (hKX2.mono (fun _ h => by simp at h) (by decide) (by decide))
        have hX2 : X2.size = 236 := hKZ.1.trans hT0
        have z0 := hKZ.at' hX2 0 (by decide) t0 (by decide) (by decide)
        have z3 : X2[3]'(by omega) = .pointer (some ⟨d.B, 0, none⟩) := at_of _ (hKX2.get x3 (by decide) (by decide))
        have cB1' : w7.cell? ⟨d.B, 1, none⟩ = some (.slice oa d.ol.length oc) := by have := hps7.B.cell 1 (by omega); rwa [if_neg (by omega), HOV.out] at this
        have cP1 : w7.cell? ⟨d.P, d.o + 1, none⟩ = some (.slice (some ⟨d.C, 0, none⟩) (d.n + 1) (d.n + 1)) := by have := hps7.P.cell (d.o + 1) (by have := OK.out.o5; omega); rwa [if_neg (by omega), OK.out.m1] at this
        have HPS7 := hidP hps7
        have HO7 := hidP (HO6.out.trans ho7)
        have HKZ := hidP hKZ
        clear hps7 ho7 hKX2 hKZ hKX1 x3 x34 x35 x36 y3 cB1
        go_upto_block 6 with fail
        refine gen_both (fun X w' => w' = w7 ∧ X.size = 236 ∧ Keeps 2 235 [] T X ∧ X[11]?.getD undef = .int .i64 ((d.n : Int) + 1) ∧ X[155]?.getD undef = d.ov ∧ X[156]?.getD undef = .int .i64 d.ol.length ∧ X[157]?.getD undef = .int .i64 0) ⟨rfl, by simp [hX2], ?_, by simp [hX2], by simp [hX2, HOV.out], by simp [hX2], by simp [hX2]⟩ ?_
        · repeat (refine Keeps.put ?_ _ _ (by first | exact .inr ⟨by decide, by decide⟩ | exact .inl (by decide)))
          exact HKZ.out
        rintro X3 w7' ⟨rfl, hX3, hKX3, x11, x34, x35, x36⟩
        have hflen : (flF d.last d.cl).length ≤ 1000 := by
          unfold flF
          rw [List.length_map]
          exact Nat.le_trans (List.length_filter_le _ _) OK.out.cln
        have hflq : ∀ q ∈ flF d.last d.cl, 1 ≤ q ∧ q ≤ d.n := fun q hq => by
          unfold flF at hq
          obtain ⟨c, hc, rfl⟩ := List.mem_map.1 hq
          have := OK.out.clq c ((List.mem_filter.1 hc).1)
          exact ⟨this.1, this.2.1⟩
        refine set6 d role OK.out fav _ _ reV _ w7' HPS7.out HFE5.out hflen hflq X3 _ hX3 (hKX3.get t0 (by decide) (by decide)) x11 x34 x35 x36 ?_
        intro X4 w8 fav8 fl8 loV8 hKX4 hps8 hmem hlen8 hq8 hnil8 hfe8 ho8
        have HPS8 := hidP hps8
        have HMEM := hidP hmem
        have HQ8 := hidP hq8
        have HN8 := hidP hnil8
        have HFE8 := hidP hfe8
        have HO8 := hidP (HO7.out.trans ho8)
        clear hps8 hmem hq8 hnil8 hfe8 ho8 hKX4 hKX3 x11 x34 x35 x36 z0 z3 cB1' cP1
        go_wp2_with fail
        exact bodyPost_end (v := .tuple #[]) (by simp [results, Yba.results23]) rfl ⟨rfl, fav8, fl8, reV, loV8, HPS8.out, HRN.out, HMEM.out, hlen8, HQ8.out, HRNIL.out, fun q h1 h2 => (HN8.out q h1).1 h2, HFE8.out, HO8.out⟩
end Go.Proofs.Ybulkcawy
