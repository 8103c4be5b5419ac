/-
  setFailures.
-/
import Derived.Test.YbulkcawyPairs
namespace Go.Proofs.Ybulkcawy
open Go.RowKit
set_option linter.unusedSimpArgs false
set_option linter.unusedVariables false
set_option maxRecDepth 100000
set_option maxHeartbeats 4000000

theorem setFailures (d : SB) (role : Nat → Nat) (ok : SBok d role) (w : World) (ho4 : d.o = 4) (hB : d.B = w.heap.size + 1) (hhi : d.hi = w.heap.size + 2) (hP : Row w d.P d.tP d.NP d.mP) (h4 : d.mP (d.o + 4) = .slice none 0 0) (hC : Row w d.C 3 (d.n + 1) (fun _ => .int .i64 0)) (hR : Row w d.R 92 (d.n + 1) (fun _ => .slice none 0 0)) (hLo : Row w d.Lo 92 (d.n + 1) (fun _ => .slice none 0 0)) (hLO : Row w d.LO 3 (d.n + 1) (fun _ => .int .i64 0))
    (hcs : FailS w d.EB d.cv d.cl) (hos : FailS w d.EB d.ov d.ol) :
    Calls Yba.prog 11 #[.pointer (some ⟨d.P, 0, none⟩), .agg #[d.cv, d.ov]] w fun e w' => e = .returned (.tuple #[]) ∧ SetPost d w w' := by
  have OK := hidP ok
  obtain ⟨ca, cc, hcv⟩ := hcs.form
  obtain ⟨oa, oc, hov⟩ := hos.form
  have HP := hidP hP
  have HC := hidP hC
  have HR := hidP hR
  have HLo := hidP hLo
  have HLO := hidP hLO
  have HCS := hidP hcs
  have HOS := hidP hos
  have HHI := hidP hhi
  have HB := hidP hB
  have H4 := hidP h4
  have HO4 := hidP ho4
  have HCV := hidP hcv
  have HOV := hidP hov
  have hPw := hP.lt
  rw [hcv, hov]
  clear hP hC hR hLo hLO hcs hos hhi hB ok h4 hcv hov ho4
  refine calls_of_wp Yba.func11 rfl ?_
  refine gen_frame (fun U => U.size = 9 ∧ U[0]?.getD undef = .pointer (some ⟨d.P, 0, none⟩) ∧ U[1]?.getD undef = .agg #[.slice ca d.cl.length cc, .slice oa d.ol.length oc]) ⟨by simp [Yba.ntmps11], by simp [Yba.ntmps11], by simp [Yba.ntmps11]⟩ ?_
  rintro T0 ⟨hT0, s0, s1⟩
  have a0 : T0[0]'(by omega) = _ := at_of _ s0
  have a1 : T0[1]'(by omega) = _ := at_of _ s1
  clear s0 s1
  go_upto_region 1 with fail
  refine gen_both (fun U w0 => U.size = 9 ∧ U[0]?.getD undef = .pointer (some ⟨d.P, 0, none⟩) ∧ U[3]?.getD undef = .pointer (some ⟨w.heap.size, 0, none⟩) ∧ w0.cell? ⟨w.heap.size, 0, none⟩ = some (.slice ca d.cl.length cc) ∧ w0.cell? ⟨w.heap.size, 1, none⟩ = some (.slice oa d.ol.length oc) ∧ Only (fun _ => False) w w0 ∧ w0.heap.size = w.heap.size + 1) ⟨by simp [hT0], by simp [hT0, a0], by simp [hT0], ?_, ?_, Only.refl.alloc _, by simp⟩ ?_
  · exact (Row.newL w [.slice ca d.cl.length cc, .slice oa d.ol.length oc] 62).cell 0 (by simp)
  · exact (Row.newL w [.slice ca d.cl.length cc, .slice oa d.ol.length oc] 62).cell 1 (by simp)
  clear a0 a1 hT0
  clear T0
  rintro T w0 ⟨hT, t0, t3, c0, c1, ho0, hs0⟩
  have HO0 := hidP ho0
  clear ho0
  refine region_chain (by kernel_rfl) _ 9 hT [some (.pointer (some ⟨d.P, 0, none⟩)), some (.pointer (some ⟨d.P, 0, none⟩)), some (.pointer (some ⟨d.P, 4, none⟩)), some (.agg #[.slice ca d.cl.length cc, .slice oa d.ol.length oc]), none] [4] (fun vs w1 => match vs with | [] => w1 = w0.drew | _ => SetPost d w w1) (by decide) (by decide) (by decide) (by decide) (by decide) (by decide) ?_ ?_ ?_ rfl
  · intro i hi U vs w1 hia hU hK hSt hanc hdep
    have hi' : i < 5 := hi
    rcases (by omega : i = 0 ∨ i = 1 ∨ i = 2 ∨ i = 3 ∨ i = 4) with rfl | rfl | rfl | rfl | rfl
    · have hvl := hanc 0 (by decide) (by decide)
      have hw1 : w1 = w0.drew := by
        match vs, hSt, hvl with
        | [], h, _ => exact h
      subst hw1
      have q0 : w0.drew.cell? ⟨w.heap.size, 0, none⟩ = some (.slice ca d.cl.length cc) := c0
      have q1 : w0.drew.cell? ⟨w.heap.size, 1, none⟩ = some (.slice oa d.ol.length oc) := c1
      have hx0 : U[0]?.getD undef = .pointer (some ⟨d.P, 0, none⟩) := kept_of hK 0 (by decide) (by assumption)
      refine step_of_run (v := .pointer (some ⟨d.P, 0, none⟩)) (w' := _) ?_ ⟨rfl, _, rfl, (fun h => by cases h), rfl⟩
      simp [execOp, go_sem, hx0, q0, q1]
    · have hvl := hanc 0 (by decide) (by decide)
      have hw1 : w1 = w0.drew := by
        match vs, hSt, hvl with
        | [], h, _ => exact h
      subst hw1
      have q0 : w0.drew.cell? ⟨w.heap.size, 0, none⟩ = some (.slice ca d.cl.length cc) := c0
      have q1 : w0.drew.cell? ⟨w.heap.size, 1, none⟩ = some (.slice oa d.ol.length oc) := c1
      have d0 : U[4]?.getD undef = .pointer (some ⟨d.P, 0, none⟩) := slot_of (chain_of (hdep ⟨0, .data⟩ (by simp) rfl (by decide)) rfl) rfl
      refine step_of_run (v := .pointer (some ⟨d.P, 0, none⟩)) (w' := _) ?_ ⟨rfl, _, rfl, (fun h => by cases h), rfl⟩
      simp [execOp, go_sem, d0, q0, q1]
    · have hvl := hanc 0 (by decide) (by decide)
      have hw1 : w1 = w0.drew := by
        match vs, hSt, hvl with
        | [], h, _ => exact h
      subst hw1
      have q0 : w0.drew.cell? ⟨w.heap.size, 0, none⟩ = some (.slice ca d.cl.length cc) := c0
      have q1 : w0.drew.cell? ⟨w.heap.size, 1, none⟩ = some (.slice oa d.ol.length oc) := c1
      have d1 : U[5]?.getD undef = .pointer (some ⟨d.P, 0, none⟩) := slot_of (chain_of (hdep ⟨1, .data⟩ (by simp) rfl (by decide)) rfl) rfl
      refine step_of_run (v := .pointer (some ⟨d.P, 4, none⟩)) (w' := _) ?_ ⟨rfl, _, rfl, (fun h => by cases h), rfl⟩
      simp [execOp, go_sem, d1, q0, q1]
    · have hvl := hanc 0 (by decide) (by decide)
      have hw1 : w1 = w0.drew := by
        match vs, hSt, hvl with
        | [], h, _ => exact h
      subst hw1
      have q0 : w0.drew.cell? ⟨w.heap.size, 0, none⟩ = some (.slice ca d.cl.length cc) := c0
      have q1 : w0.drew.cell? ⟨w.heap.size, 1, none⟩ = some (.slice oa d.ol.length oc) := c1
      have hx3 : U[3]?.getD undef = .pointer (some ⟨w.heap.size, 0, none⟩) := kept_of hK 3 (by decide) (by assumption)
      refine step_of_run (v := .agg #[.slice ca d.cl.length cc, .slice oa d.ol.length oc]) (w' := _) ?_ ⟨rfl, _, rfl, (fun h => by cases h), rfl⟩
      simp [execOp, go_sem, hx3, q0, q1]
    · exact absurd (by decide) hia
  · intro j hj hi U vs w1 hlen hU hK hSt hdep hprev
    have hj' : j < 1 := hj
    rcases (by omega : j = 0) with rfl
    · obtain rfl : vs = [] := List.eq_nil_of_length_eq_zero hlen
      have d2 : U[6]?.getD undef = .pointer (some ⟨d.P, 4, none⟩) := slot_of (chain_of (hdep ⟨2, .data⟩ (by simp) rfl (by decide)) rfl) rfl
      have d3 : U[7]?.getD undef = .agg #[.slice ca d.cl.length cc, .slice oa d.ol.length oc] := slot_of (chain_of (hdep ⟨3, .data⟩ (by simp) rfl (by decide)) rfl) rfl
      have hw1 : w1 = w0.drew := hSt
      subst hw1
      have hod : Only (fun _ => False) w w0.drew := HO0.out.drew
      have hset := setF d role OK.out w0.drew (by rw [HB.out]; show _ = w0.heap.size; omega) (by rw [HHI.out]; show _ = w0.heap.size + 1; omega) (HP.out.only hod (fun h => h)) H4.out (HC.out.only hod (fun h => h)) (HR.out.only hod (fun h => h)) (HLo.out.only hod (fun h => h)) (HLO.out.only hod (fun h => h)) (HCS.out.only hod (fun _ _ h => h.elim)) (HOS.out.only hod (fun _ _ h => h.elim))
      rw [HO4.out, HCV.out, HOV.out] at hset
      refine step_of_call (f := 23) (args := #[.pointer (some ⟨d.P, 4, none⟩), .agg #[.slice ca d.cl.length cc, .slice oa d.ol.length oc]]) (w' := w0.drew) ?_ (hset.mono ?_)
      · simp [execOp, go_sem, d2, d3]
      · rintro e w9 ⟨rfl, fav, fl, reV, loV, h1, h2, h3, h4, h5, h6, h7, h8, h9⟩
        exact ⟨_, rfl, _, rfl, (fun h => by cases h), fav, fl, reV, loV, h1, h2, h3, h4, h5, h6, h7, h8, (hod.mono (fun _ _ h => h.elim)).trans h9⟩
  · intro U vs w1 hU hK hlen hSt hval hall
    have hpost : SetPost d w w1 := by
      match vs, hlen, hSt with
      | [_], _, h => exact h
    have HPO := hidP hpost
    clear hpost hSt hval hall hK t0 t3 c0 c1
    go_wp2_with fail
    exact bodyPost_end (v := .tuple #[]) (by simp [results, Yba.results11]) rfl ⟨rfl, HPO.out⟩
end Go.Proofs.Ybulkcawy
