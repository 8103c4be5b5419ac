/-
  LawS3859APlay: from the tables to the player with its failures.
-/
import Derived.Test.YbulkcawyS2
namespace Go.Proofs.Ybulkcawy
open Go.RowKit
set_option linter.unusedSimpArgs false
set_option linter.unusedVariables false
set_option maxRecDepth 100000
set_option maxHeartbeats 4000000

theorem st2 (p : Inp) (hp : p.ok) (B EB : Nat) (cv ov ev : Value) (w : World) (hEB : EB = w.heap.size) (htab : Tabs p B cv ov ev w) (T : Array Value) (Q : Exit → Act → World → Prop) (hT : T.size = 735) (t2 : T[2]?.getD undef = .bool p.keep) (t3 : T[3]?.getD undef = .int .u8 p.stopB) (t23 : T[23]?.getD undef = .int .i64 p.n) (t24 : T[24]?.getD undef = .int .i64 p.last) (t29 : T[29]?.getD undef = cv) (t36 : T[36]?.getD undef = ov)
    (hQ : ∀ T' w' s1 PL g1 g2 g3 g4 PR OU SE IN fav fl reV loV, Keeps 81 734 [49, 50, 51] T T' → T'[49]?.getD undef = .pointer (some ⟨EB, 0, none⟩) → T'[51]?.getD undef = .pointer (some ⟨PL, 0, none⟩) → Rdy p EB s1 PL g1 g2 g3 g4 PR OU SE IN fav fl reV loV w' → Only (fun b => EB ≤ b) w w' → (tlOf Yba.f3 19).wp Yba.prog Q ⟨T', []⟩ w') : (tlOf Yba.f3 14).wp Yba.prog Q ⟨T, []⟩ w := by
  conv in (tlOf Yba.f3 14) => whnf
  have HQ := hidP hQ
  have HEB := hidP hEB
  have HT := hidP htab
  obtain ⟨cvf, cvc, hcv⟩ := htab.cs.form
  obtain ⟨ovf, ovc, hov⟩ := htab.os.form
  have hn6 := hp.n6
  have hn1 := hp.n1
  have hl5 := hp.l5
  have HP := hidP hp
  clear hQ htab hEB hp
  -- region 68
  refine wp_seq_k ?_
  intro K hK
  have HK := hidP hK
  clear hK
  go_wp2_with fail
  refine HK.out _ _ ?_
  clear HK K
  refine gen_both (fun T2 w2 => T2.size = 735 ∧ Keeps 81 734 [49, 50, 51] T T2 ∧ T2[49]?.getD undef = .pointer (some ⟨EB, 0, none⟩) ∧ Row w2 EB 3 1 (fun _ => .int .i64 0) ∧ Only (fun b => EB ≤ b) w w2 ∧ w2.heap.size = EB + 1) ⟨by simp [hT], ?_, by simp [hT, HEB.out], ?_, ?_, ?_⟩ ?_
  · repeat (refine Keeps.put ?_ _ _ (by first | exact .inr ⟨by decide, by decide⟩ | exact .inl (by decide)))
    exact Keeps.refl
  · rw [HEB.out]
    have := Row.new w [.int .i64 0] 3 (fun _ => .int .i64 0) (fun k hk => by simp at hk; subst hk; rfl)
    exact this
  · exact Only.refl.alloc _
  · simp [HEB.out]
  rintro T2 w2 ⟨hT2, hK2, s49, hS, ho2, hz2⟩
  -- where the yielding stops
  refine wp_seq_k ?_
  intro K hK
  have HK := hidP hK
  clear hK
  refine st69 p HP.out EB w2 hS T2 _ hT2 (hK2.get t2 (by decide) (by decide)) (hK2.get t3 (by decide) (by decide)) (hK2.get t23 (by decide) (by decide)) (hK2.get t24 (by decide) (by decide)) s49 ?_
  intro T3 w3 hK3 hS3 ho3 hz3
  refine HK.out _ _ ?_
  clear HK K
  have hT3 : T3.size = 735 := hK3.1.trans hT2
  have hK3' : Keeps 81 734 [49, 50, 51] T T3 := hK2.trans (hK3.mono (fun i hi => by cases hi) (by decide) (by decide))
  have u49 := hK3.get s49 (by decide) (by decide)
  have ho3' : Only (fun b => EB ≤ b) w w3 := ho2.trans (ho3.mono fun b _ e => by rw [e]; omega)
  have hz3' : w3.heap.size = EB + 1 := hz3.trans hz2
  clear hK3 s49 ho2 hS ho3 hz2 hz3 hK2 hT2
  clear T2
  clear w2
  -- the system
  have a23 := hK3'.at' hT3 23 (by decide) t23 (by decide) (by decide)
  have HK3 := hidP hK3'
  have H3 := hidP (And.intro hS3 (And.intro ho3' hz3'))
  clear hK3' hS3 ho3' hz3'
  refine wp_seq_k ?_
  intro K hK
  have HK := hidP hK
  clear hK
  go_wp2_with fail
  refine HK.out _ _ ?_
  clear HK K
  refine gen_both (fun T2 w2 => T2.size = 735 ∧ Keeps 81 734 [49, 50, 51] T T2 ∧ T2[49]?.getD undef = .pointer (some ⟨EB, 0, none⟩) ∧ T2[50]?.getD undef = .pointer (some ⟨EB + 1, 0, none⟩) ∧ Row w2 EB 3 1 (fun _ => .int .i64 p.stopA) ∧ Row w2 (EB + 1) 43 3 (fun k => if k = 2 then .int .i64 0 else .int .i64 p.n) ∧ Only (fun b => EB ≤ b) w w2 ∧ w2.heap.size = EB + 2) ⟨by simp [hT3], ?_, ?_, by simp [hT3, H3.out.2.2], H3.out.1.alloc _, ?_, H3.out.2.1.alloc _, by simp [H3.out.2.2]⟩ ?_
  · repeat (refine Keeps.put ?_ _ _ (by first | exact .inr ⟨by decide, by decide⟩ | exact .inl (by decide)))
    exact HK3.out
  · have a49 : T3[49]'(by omega) = _ := at_of _ u49
    simp [hT3, a49]
  · have := Row.new w3 [.int .i64 p.n, .int .i64 p.n, .int .i64 0] 43 (fun k => if k = 2 then .int .i64 0 else .int .i64 p.n) (fun k hk => by
      simp at hk
      rcases (by omega : k = 0 ∨ k = 1 ∨ k = 2) with rfl | rfl | rfl <;> rfl)
    rw [H3.out.2.2] at this
    exact this
  clear a23 HK3 H3 u49 hT3
  clear T3
  clear w3
  rintro T2 w2 ⟨hT2, hK2, s49, s50, hS, hA, ho2, hz2⟩
  -- the player
  refine wp_seq_k ?_
  intro K hK
  have HK := hidP hK
  clear hK
  refine f3_r72 p.n p.last (EB + 1) hn1 hn6 hl5 w2 hA T2 _ hT2 (hK2.get t23 (by decide) (by decide)) (hK2.get t24 (by decide) (by decide)) s50 ?_
  rintro T3 w3 v hK3 u51 ⟨PL, g1, g2, g3, g4, PR, OU, SE, IN, hv, hlo, hpl, hparts⟩ ho3
  refine HK.out _ _ ?_
  clear HK K
  have hT3 : T3.size = 735 := hK3.1.trans hT2
  have hK3' : Keeps 81 734 [49, 50, 51] T T3 := hK2.trans (hK3.mono (fun i hi => .inl (by simp at hi; simp [hi])) (by decide) (by decide))
  have u49 := hK3.get s49 (by decide) (by decide)
  have ho3' : Only (fun b => EB ≤ b) w w3 := ho2.trans (ho3.mono fun b _ e => e.elim)
  have hS3 := hS.only ho3 (fun h => h)
  rw [hz2] at hparts hlo
  have hz3 : EB + 2 ≤ w3.heap.size := by have := ho3.size; omega
  obtain ⟨s1, hs1⟩ : ∃ s1, s1 = w3.heap.size := ⟨_, rfl⟩
  rw [hv] at u51
  have hcs : FailS w3 EB cv (p.clA p.n) := (HT.out.cs.toS (EB := EB) (by rw [HEB.out]; exact Nat.le_refl _)).only ho3' (fun b _ e => e)
  have hos : FailS w3 EB ov (p.olA p.omN) := (HT.out.os.toS (EB := EB) (by rw [HEB.out]; exact Nat.le_refl _)).only ho3' (fun b _ e => e)
  have hcall := setFailures (dSB p EB s1 PL g1 g2 g3 g4 PR OU SE IN cv ov) _ (roleOk p HP.out EB s1 PL g1 g2 g3 g4 PR OU SE IN cv ov w3 hpl hparts hlo hs1 (by omega)) w3 rfl (by rw [← hs1]; rfl) (by rw [← hs1]; rfl) hpl rfl hparts.r1 hparts.r2 hparts.r3 hparts.r4 hcs hos
  have hrd : ∀ w', SetPost (dSB p EB s1 PL g1 g2 g3 g4 PR OU SE IN cv ov) w3 w' → ∃ fav fl reV loV, Rdy p EB s1 PL g1 g2 g3 g4 PR OU SE IN fav fl reV loV w' ∧ Only (fun b => EB ≤ b) w3 w' := fun w' h => rdy_of p HP.out EB s1 PL g1 g2 g3 g4 PR OU SE IN cv ov w3 w' hpl hparts hlo hs1 (by omega) hS3 h
  have HRD := hidP hrd
  have hcall' : Calls Yba.prog 11 #[.pointer (some ⟨PL, 0, none⟩), .agg #[cv, ov]] w3 fun e w' => e = .returned (.tuple #[]) ∧ SetPost (dSB p EB s1 PL g1 g2 g3 g4 PR OU SE IN cv ov) w3 w' := hcall
  have HCALL := hidP hcall'
  have HO3 := hidP ho3'
  have HK3 := hidP hK3'
  have a51 : T3[51]'(by omega) = _ := at_of _ u51
  have a49 : T3[49]'(by omega) = _ := at_of _ u49
  have a29 := hK3'.at' hT3 29 (by decide) t29 (by decide) (by decide)
  have a36 := hK3'.at' hT3 36 (by decide) t36 (by decide) (by decide)
  clear hcall hcall' hrd hpl hparts hlo hs1 hz3 hcs hos hS3 ho3 ho3' hK3 hK3' hS hA ho2 hz2 s49 s50 hK2 u51 u49 hv
  subst hcv hov
  refine wp_seq_k ?_
  intro K hK
  have HK := hidP hK
  clear hK
  go_wp2_with (go_at_call 11; refine HCALL.out.mono ?_; rintro e w4 ⟨rfl, hpost⟩)
  obtain ⟨fav, fl, reV, loV, hR, hoR⟩ := HRD.out _ hpost
  refine HK.out _ _ ?_
  refine HQ.out _ _ s1 PL g1 g2 g3 g4 PR OU SE IN fav fl reV loV ?_ (by simp [hT3, a49]) (by simp [hT3, a51]) hR (HO3.out.trans hoR)
  repeat (refine Keeps.put ?_ _ _ (by first | exact .inr ⟨by decide, by decide⟩ | exact .inl (by decide)))
  exact HK3.out
end Go.Proofs.Ybulkcawy
