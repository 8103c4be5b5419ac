/-
  LawS3859APlay: the keepers are made.
-/
import Derived.Test.YbulkcawyF3M
namespace Go.Proofs.Ybulkcawy
open Go.RowKit
set_option linter.unusedSimpArgs false
set_option linter.unusedVariables false
set_option maxRecDepth 100000
set_option maxHeartbeats 8000000

theorem f3_16 (n : Nat) (hn1 : 1 ≤ n) (hn : n ≤ 6) (A PL PS KP : Nat) (mP : Nat → Value) (w : World) (hPL : Row w PL 59 19 mP) (h14 : mP 14 = .slice (some ⟨KP, 0, none⟩) (n + 1) (n + 1)) (hPS : Row w PS 64 (n + 1) (psJ A (n + 1))) (hKP : Row w KP 74 (n + 1) (fun _ => .nilIface)) (T : Array Value) (Q : Exit → Act → World → Prop) (hT0 : T.size = 735) (t23 : T[23]?.getD undef = .int .i64 n) (t51 : T[51]?.getD undef = .pointer (some ⟨PL, 0, none⟩)) (t53 : T[53]?.getD undef = .slice (some ⟨PS, 0, none⟩) (n + 1) (n + 1)) (t56 : T[56]?.getD undef = .int .i64 1)
    (hQ : ∀ T' w', Keeps 81 734 [56] T T' → Row w' KP 74 (n + 1) (procJ A (n + 1)) → Only (fun b => b = KP) w w' → w'.heap.size = w.heap.size → Q .normal ⟨T', []⟩ w') : (blkOf Yba.f3 16).wp Yba.prog Q ⟨T, []⟩ w := by
  conv in (blkOf Yba.f3 16) => whnf
  refine wp_block ?_
  have HQ := hidP hQ
  have HPL := hidP hPL
  have HPS := hidP hPS
  have HKP := hidP hKP
  have H14 := hidP h14
  clear hQ hPL hPS hKP h14
  obtain ⟨I, hI⟩ : ∃ I : Nat → Array Value → World → Prop, I = (fun k T2 wr => ∃ q, 1 ≤ q ∧ q + k = n + 1 ∧ Keeps 81 734 [56] T T2 ∧ T2[56]?.getD undef = .int .i64 q ∧ Row wr KP 74 (n + 1) (procJ A q) ∧ Only (fun b => b = KP) w wr ∧ wr.heap.size = w.heap.size) := ⟨_, rfl⟩
  have HI := hidP hI
  clear hI
  refine wp_loop_n I ?_ n _ _ ?_
  · intro k T2 wr hIk
    rw [HI.out] at hIk
    obtain ⟨q, hq1, hqk, hK, u56, hkp, ho, hs⟩ := hIk
    have hT : T2.size = 735 := hK.1.trans hT0
    have a23 := hK.at' hT 23 (by decide) t23 (by decide) (by decide)
    have a51 := hK.at' hT 51 (by decide) t51 (by decide) (by decide)
    have a53 := hK.at' hT 53 (by decide) t53 (by decide) (by decide)
    have a56 : T2[56]'(by omega) = _ := at_of _ u56
    have HK := hidP hK
    clear hK u56
    have HM := hidP (And.intro hkp (And.intro ho hs))
    clear hkp ho hs
    go_upto_if 394 with fail
    refine wp_cond_at (decide (q ≤ n)) (by simp [Act.eval, hT]) (fun h => ?_) (fun h => ?_)
    · have hqn : q ≤ n := of_decide_eq_true h
      clear h
      refine gen_frame (fun T2 => T2.size = 735 ∧ Keeps 81 734 [56] T T2 ∧ T2[56]?.getD undef = .int .i64 q) ⟨by simp [hT], ?_, by simp [hT, a23, a51, a53, a56]⟩ ?_
      · repeat (refine Keeps.put ?_ _ _ (by first | exact .inr ⟨by decide, by decide⟩ | exact .inl (by decide)))
        exact HK.out
      clear a23 a51 a53 a56 HK hT
      clear T2
      rintro T2 ⟨hT, hK, u56⟩
      have a23 := hK.at' hT 23 (by decide) t23 (by decide) (by decide)
      have a51 := hK.at' hT 51 (by decide) t51 (by decide) (by decide)
      have a53 := hK.at' hT 53 (by decide) t53 (by decide) (by decide)
      have a56 : T2[56]'(by omega) = _ := at_of _ u56
      have HK := hidP hK
      clear hK u56
      obtain ⟨ab, hab⟩ : ∃ ab, ab = A + (q - 1) := ⟨_, rfl⟩
      have HAB := hidP hab
      clear hab
      have cPL14 : wr.cell? ⟨PL, 14, none⟩ = some (.slice (some ⟨KP, 0, none⟩) (n + 1) (n + 1)) := ((HPL.out.only HM.out.2.1 (row_ne HPL.out HKP.out (by decide))).cell 14 (by omega)).trans (congrArg some H14.out)
      have cPS : wr.cell? ⟨PS, q, none⟩ = some (.pointer (some ⟨ab, 0, none⟩)) := ((HPS.out.only HM.out.2.1 (row_ne HPS.out HKP.out (by decide))).cell q (by omega)).trans (by unfold psJ; rw [if_pos (by omega), HAB.out])
      have cKP : wr.cell? ⟨KP, q, none⟩ = some .nilIface := (HM.out.1.cell q (by omega)).trans (by unfold procJ; rw [if_neg (by omega)])
      have fKP : wr.frozen? ⟨KP, q, none⟩ = false := HM.out.1.frozen _
      have i1 : (0 : Int) ≤ (q : Int) := by omega
      have i2 : (q : Int) < (n : Int) + 1 := by omega
      have s51 : T2[51]?.getD undef = .pointer (some ⟨PL, 0, none⟩) := HK.out.get t51 (by decide) (by decide)
      have s53 : T2[53]?.getD undef = .slice (some ⟨PS, 0, none⟩) (n + 1) (n + 1) := HK.out.get t53 (by decide) (by decide)
      have s56 : T2[56]?.getD undef = .int .i64 q := by simp [hT, a56]
      clear a23 a51 a53 a56
      go_upto_region 90 with fail
      refine region_chain (by kernel_rfl) _ 735 hT [some (.pointer (some ⟨PL, 0, none⟩)), some (.pointer (some ⟨PL, 0, none⟩)), some (.pointer (some ⟨PL, 14, none⟩)), some (.slice (some ⟨KP, 0, none⟩) (n + 1) (n + 1)), some (.int .i64 q), some (.slice (some ⟨PS, 0, none⟩) (n + 1) (n + 1)), some (.int .i64 q), some (.pointer (some ⟨PS, q, none⟩)), some (.pointer (some ⟨ab, 0, none⟩)), some (.iface 64 (.pointer (some ⟨ab, 0, none⟩))), none, none] [10, 11] (fun vs w1 => match vs with | [] => w1 = wr.drew | [v] => v = .pointer (some ⟨KP, q, none⟩) ∧ w1 = wr.drew | _ => w1 = wr.drew.setCell ⟨KP, q, none⟩ (.iface 64 (.pointer (some ⟨ab, 0, none⟩)))) (by decide) (by decide) (by decide) (by decide) (by decide) (by decide) ?_ ?_ ?_ rfl
      · intro i hi U vs w1 hia hU hK hSt hanc hdep
        have hi' : i < 12 := hi
        rcases (by omega : i = 0 ∨ i = 1 ∨ i = 2 ∨ i = 3 ∨ i = 4 ∨ i = 5 ∨ i = 6 ∨ i = 7 ∨ i = 8 ∨ i = 9 ∨ i = 10 ∨ i = 11) with rfl | rfl | rfl | rfl | rfl | rfl | rfl | rfl | rfl | rfl | rfl | rfl
        · have hvl := hanc 1 (by decide) (by decide)
          have hw1 : w1 = wr.drew := by
            match vs, hSt, hvl with
            | [], h, _ => exact h
            | [v], h, _ => exact h.2
          subst hw1
          have q1 : wr.drew.cell? ⟨PL, 14, none⟩ = some (.slice (some ⟨KP, 0, none⟩) (n + 1) (n + 1)) := cPL14
          have q2 : wr.drew.cell? ⟨PS, q, none⟩ = some (.pointer (some ⟨ab, 0, none⟩)) := cPS
          have hx51 : U[51]?.getD undef = .pointer (some ⟨PL, 0, none⟩) := kept_of hK 51 (by decide) (by assumption)
          refine step_of_run (v := .pointer (some ⟨PL, 0, none⟩)) (w' := _) ?_ ⟨rfl, _, rfl, (fun h => by cases h), rfl⟩
          simp [execOp, go_sem, hx51, q1, q2, i1, i2]
        · have hvl := hanc 1 (by decide) (by decide)
          have hw1 : w1 = wr.drew := by
            match vs, hSt, hvl with
            | [], h, _ => exact h
            | [v], h, _ => exact h.2
          subst hw1
          have q1 : wr.drew.cell? ⟨PL, 14, none⟩ = some (.slice (some ⟨KP, 0, none⟩) (n + 1) (n + 1)) := cPL14
          have q2 : wr.drew.cell? ⟨PS, q, none⟩ = some (.pointer (some ⟨ab, 0, none⟩)) := cPS
          have d0 : U[397]?.getD undef = .pointer (some ⟨PL, 0, none⟩) := slot_of (chain_of (hdep ⟨0, .data⟩ (by simp) rfl (by decide)) rfl) rfl
          refine step_of_run (v := .pointer (some ⟨PL, 0, none⟩)) (w' := _) ?_ ⟨rfl, _, rfl, (fun h => by cases h), rfl⟩
          simp [execOp, go_sem, d0, q1, q2, i1, i2]
        · have hvl := hanc 1 (by decide) (by decide)
          have hw1 : w1 = wr.drew := by
            match vs, hSt, hvl with
            | [], h, _ => exact h
            | [v], h, _ => exact h.2
          subst hw1
          have q1 : wr.drew.cell? ⟨PL, 14, none⟩ = some (.slice (some ⟨KP, 0, none⟩) (n + 1) (n + 1)) := cPL14
          have q2 : wr.drew.cell? ⟨PS, q, none⟩ = some (.pointer (some ⟨ab, 0, none⟩)) := cPS
          have d1 : U[398]?.getD undef = .pointer (some ⟨PL, 0, none⟩) := slot_of (chain_of (hdep ⟨1, .data⟩ (by simp) rfl (by decide)) rfl) rfl
          refine step_of_run (v := .pointer (some ⟨PL, 14, none⟩)) (w' := _) ?_ ⟨rfl, _, rfl, (fun h => by cases h), rfl⟩
          simp [execOp, go_sem, d1, q1, q2, i1, i2]
        · have hvl := hanc 1 (by decide) (by decide)
          have hw1 : w1 = wr.drew := by
            match vs, hSt, hvl with
            | [], h, _ => exact h
            | [v], h, _ => exact h.2
          subst hw1
          have q1 : wr.drew.cell? ⟨PL, 14, none⟩ = some (.slice (some ⟨KP, 0, none⟩) (n + 1) (n + 1)) := cPL14
          have q2 : wr.drew.cell? ⟨PS, q, none⟩ = some (.pointer (some ⟨ab, 0, none⟩)) := cPS
          have d2 : U[399]?.getD undef = .pointer (some ⟨PL, 14, none⟩) := slot_of (chain_of (hdep ⟨2, .data⟩ (by simp) rfl (by decide)) rfl) rfl
          refine step_of_run (v := .slice (some ⟨KP, 0, none⟩) (n + 1) (n + 1)) (w' := _) ?_ ⟨rfl, _, rfl, (fun h => by cases h), rfl⟩
          simp [execOp, go_sem, d2, q1, q2, i1, i2]
        · have hvl := hanc 1 (by decide) (by decide)
          have hw1 : w1 = wr.drew := by
            match vs, hSt, hvl with
            | [], h, _ => exact h
            | [v], h, _ => exact h.2
          subst hw1
          have q1 : wr.drew.cell? ⟨PL, 14, none⟩ = some (.slice (some ⟨KP, 0, none⟩) (n + 1) (n + 1)) := cPL14
          have q2 : wr.drew.cell? ⟨PS, q, none⟩ = some (.pointer (some ⟨ab, 0, none⟩)) := cPS
          have hx56 : U[56]?.getD undef = .int .i64 q := kept_of hK 56 (by decide) (by assumption)
          refine step_of_run (v := .int .i64 q) (w' := _) ?_ ⟨rfl, _, rfl, (fun h => by cases h), rfl⟩
          simp [execOp, go_sem, hx56, q1, q2, i1, i2]
        · have hvl := hanc 1 (by decide) (by decide)
          have hw1 : w1 = wr.drew := by
            match vs, hSt, hvl with
            | [], h, _ => exact h
            | [v], h, _ => exact h.2
          subst hw1
          have q1 : wr.drew.cell? ⟨PL, 14, none⟩ = some (.slice (some ⟨KP, 0, none⟩) (n + 1) (n + 1)) := cPL14
          have q2 : wr.drew.cell? ⟨PS, q, none⟩ = some (.pointer (some ⟨ab, 0, none⟩)) := cPS
          have hx53 : U[53]?.getD undef = .slice (some ⟨PS, 0, none⟩) (n + 1) (n + 1) := kept_of hK 53 (by decide) (by assumption)
          refine step_of_run (v := .slice (some ⟨PS, 0, none⟩) (n + 1) (n + 1)) (w' := _) ?_ ⟨rfl, _, rfl, (fun h => by cases h), rfl⟩
          simp [execOp, go_sem, hx53, q1, q2, i1, i2]
        · have hvl := hanc 1 (by decide) (by decide)
          have hw1 : w1 = wr.drew := by
            match vs, hSt, hvl with
            | [], h, _ => exact h
            | [v], h, _ => exact h.2
          subst hw1
          have q1 : wr.drew.cell? ⟨PL, 14, none⟩ = some (.slice (some ⟨KP, 0, none⟩) (n + 1) (n + 1)) := cPL14
          have q2 : wr.drew.cell? ⟨PS, q, none⟩ = some (.pointer (some ⟨ab, 0, none⟩)) := cPS
          have hx56 : U[56]?.getD undef = .int .i64 q := kept_of hK 56 (by decide) (by assumption)
          refine step_of_run (v := .int .i64 q) (w' := _) ?_ ⟨rfl, _, rfl, (fun h => by cases h), rfl⟩
          simp [execOp, go_sem, hx56, q1, q2, i1, i2]
        · have hvl := hanc 1 (by decide) (by decide)
          have hw1 : w1 = wr.drew := by
            match vs, hSt, hvl with
            | [], h, _ => exact h
            | [v], h, _ => exact h.2
          subst hw1
          have q1 : wr.drew.cell? ⟨PL, 14, none⟩ = some (.slice (some ⟨KP, 0, none⟩) (n + 1) (n + 1)) := cPL14
          have q2 : wr.drew.cell? ⟨PS, q, none⟩ = some (.pointer (some ⟨ab, 0, none⟩)) := cPS
          have d5 : U[402]?.getD undef = .slice (some ⟨PS, 0, none⟩) (n + 1) (n + 1) := slot_of (chain_of (hdep ⟨5, .data⟩ (by simp) rfl (by decide)) rfl) rfl
          have d6 : U[403]?.getD undef = .int .i64 q := slot_of (chain_of (hdep ⟨6, .data⟩ (by simp) rfl (by decide)) rfl) rfl
          refine step_of_run (v := .pointer (some ⟨PS, q, none⟩)) (w' := _) ?_ ⟨rfl, _, rfl, (fun h => by cases h), rfl⟩
          simp [execOp, go_sem, d5, d6, q1, q2, i1, i2]
        · have hvl := hanc 1 (by decide) (by decide)
          have hw1 : w1 = wr.drew := by
            match vs, hSt, hvl with
            | [], h, _ => exact h
            | [v], h, _ => exact h.2
          subst hw1
          have q1 : wr.drew.cell? ⟨PL, 14, none⟩ = some (.slice (some ⟨KP, 0, none⟩) (n + 1) (n + 1)) := cPL14
          have q2 : wr.drew.cell? ⟨PS, q, none⟩ = some (.pointer (some ⟨ab, 0, none⟩)) := cPS
          have d7 : U[404]?.getD undef = .pointer (some ⟨PS, q, none⟩) := slot_of (chain_of (hdep ⟨7, .data⟩ (by simp) rfl (by decide)) rfl) rfl
          refine step_of_run (v := .pointer (some ⟨ab, 0, none⟩)) (w' := _) ?_ ⟨rfl, _, rfl, (fun h => by cases h), rfl⟩
          simp [execOp, go_sem, d7, q1, q2, i1, i2]
        · have hvl := hanc 1 (by decide) (by decide)
          have hw1 : w1 = wr.drew := by
            match vs, hSt, hvl with
            | [], h, _ => exact h
            | [v], h, _ => exact h.2
          subst hw1
          have q1 : wr.drew.cell? ⟨PL, 14, none⟩ = some (.slice (some ⟨KP, 0, none⟩) (n + 1) (n + 1)) := cPL14
          have q2 : wr.drew.cell? ⟨PS, q, none⟩ = some (.pointer (some ⟨ab, 0, none⟩)) := cPS
          have d8 : U[405]?.getD undef = .pointer (some ⟨ab, 0, none⟩) := slot_of (chain_of (hdep ⟨8, .data⟩ (by simp) rfl (by decide)) rfl) rfl
          refine step_of_run (v := .iface 64 (.pointer (some ⟨ab, 0, none⟩))) (w' := _) ?_ ⟨rfl, _, rfl, (fun h => by cases h), rfl⟩
          simp [execOp, go_sem, d8, q1, q2, i1, i2]
        · exact absurd (by decide) hia
        · exact absurd (by decide) hia
      · intro j hj hi U vs w1 hlen hU hK hSt hdep hprev
        have hj' : j < 2 := hj
        rcases (by omega : j = 0 ∨ j = 1) with rfl | rfl
        · obtain rfl : vs = [] := List.eq_nil_of_length_eq_zero hlen
          have d3 : U[400]?.getD undef = .slice (some ⟨KP, 0, none⟩) (n + 1) (n + 1) := slot_of (chain_of (hdep ⟨3, .data⟩ (by simp) rfl (by decide)) rfl) rfl
          have d4 : U[401]?.getD undef = .int .i64 q := slot_of (chain_of (hdep ⟨4, .data⟩ (by simp) rfl (by decide)) rfl) rfl
          have hw1 : w1 = wr.drew := hSt
          subst hw1
          refine step_of_run (v := .pointer (some ⟨KP, q, none⟩)) (w' := wr.drew) ?_ ⟨_, rfl, (fun h => by cases h), rfl, rfl⟩
          simp [execOp, go_sem, i1, i2, d3, d4]
        · obtain ⟨v0, rfl⟩ : ∃ v0, vs = [v0] := by
            match vs, hlen with | [v0], _ => exact ⟨v0, rfl⟩
          have p0 : U[407]?.getD undef = v0 := slot_of (hprev 0 (by decide)) rfl
          have d9 : U[406]?.getD undef = .iface 64 (.pointer (some ⟨ab, 0, none⟩)) := slot_of (chain_of (hdep ⟨9, .data⟩ (by simp) rfl (by decide)) rfl) rfl
          obtain ⟨rfl, rfl⟩ := hSt
          have q4 : wr.drew.cell? ⟨KP, q, none⟩ = some _ := cKP
          have q5 : wr.drew.frozen? ⟨KP, q, none⟩ = false := fKP
          refine step_of_skip (w' := wr.drew.setCell ⟨KP, q, none⟩ (.iface 64 (.pointer (some ⟨ab, 0, none⟩)))) ?_ ⟨undef, rfl, (fun _ => rfl), rfl⟩
          simp [execOp, go_sem, d9, p0] at q4 q5 ⊢
          simp [q4, q5]
      · intro V vs w3 hV hKV hlen3 hSt hval hall
        have hw3 : w3 = wr.drew.setCell ⟨KP, q, none⟩ (.iface 64 (.pointer (some ⟨ab, 0, none⟩))) := by
          match vs, hlen3, hSt with
          | [_, _], _, h => exact h
        have hr3 : Row w3 KP 74 (n + 1) (procJ A (q + 1)) := by
          rw [hw3]
          refine (HM.out.1.drew.set q _).ext fun x hx => ?_
          unfold procJ
          by_cases e : x = q
          · subst e
            rw [if_pos rfl, if_pos (by omega), HAB.out]
          · simp only [e, if_false]
            by_cases e2 : 1 ≤ x ∧ x < q
            · rw [if_pos e2, if_pos (by omega)]
            · rw [if_neg e2, if_neg (by omega)]
        have ho3 : Only (fun b => b = KP) w w3 := by rw [hw3]; exact HM.out.2.1.drew.setCell (fun _ => rfl) _
        have hs3 : w3.heap.size = w.heap.size := by rw [hw3, ← HM.out.2.2]; simp [World.setCell]
        have hKc := Keeps.trans HK.out (Kept.keeps (lo := 81) (hi := 734) (vs := [56]) hKV (hV.trans hT.symm) (by decide))
        have b56 : V[56]'(by omega) = .int .i64 q := at_of _ (kept_of hKV 56 (by decide) s56)
        have HKc := hidP hKc
        have H3 := hidP (And.intro hr3 (And.intro ho3 hs3))
        have wr3 : IntKind.i64.wrap ((q : Int) + 1) = (q : Int) + 1 := by rw [IntKind.wrap_i64]; omega
        clear hKV hlen3 hSt hval hall hw3 hKc hr3 ho3 hs3 s51 s53 s56 HK hT cPL14 cPS cKP fKP HM
        go_wp2_with fail
        first | refine ⟨trivial, k - 1, by omega, ?_⟩ | refine ⟨k - 1, by omega, ?_⟩
        rw [HI.out]
        refine ⟨q + 1, by omega, by omega, ?_, by simp [hV], H3.out⟩
        repeat (refine Keeps.put ?_ _ _ (by first | exact .inr ⟨by decide, by decide⟩ | exact .inl (by decide)))
        exact HKc.out
    · have hqn : ¬ q ≤ n := of_decide_eq_false h
      obtain rfl : q = n + 1 := by omega
      go_wp2_with fail
      first | refine HQ.out _ _ ?_ HM.out.1 HM.out.2.1 HM.out.2.2 | refine ⟨trivial, HQ.out _ _ ?_ HM.out.1 HM.out.2.1 HM.out.2.2⟩
      repeat (refine Keeps.put ?_ _ _ (by first | exact .inr ⟨by decide, by decide⟩ | exact .inl (by decide)))
      exact HK.out
  · rw [HI.out]
    refine ⟨1, by omega, by omega, Keeps.refl, t56, HKP.out.ext fun x hx => ?_, Only.refl, rfl⟩
    unfold procJ
    rw [if_neg (by omega)]
end Go.Proofs.Ybulkcawy
