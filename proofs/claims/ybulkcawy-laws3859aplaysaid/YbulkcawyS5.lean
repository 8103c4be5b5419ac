/-
  LawS3859APlay: what the run gave is what was wanted.
-/
import Derived.Test.YbulkcawyS4
namespace Go.Proofs.Ybulkcawy
open Go.RowKit
set_option linter.unusedSimpArgs false
set_option linter.unusedVariables false
set_option maxRecDepth 100000
set_option maxHeartbeats 4000000

theorem Fin'.only {p : Inp} {c : Cfg} {pp : Par} {B CA : Nat} {v : Value} {g : Option Nat} {w w' : World} (h : Fin' p c pp B CA v g w) (ho : Only (fun _ => False) w w') : Fin' p c pp B CA v g w' := by
  refine ⟨h.lg.only ho (fun h => h) (fun b _ h => h), own_of_block h.wv fun g hg => ho.block g (own_lt3 h.wv hg) (fun h => h), h.ou.only ho (fun h => h), h.C.only ho (fun h => h), h.D.only ho (fun h => h), h.ca.only ho (fun h => h), fun hk => (h.co hk).only ho (NewG.refl _ _) (fun h => h) (fun b _ h => h.elim), fun hk => ?_, Nat.lt_of_lt_of_le h.plw ho.size⟩
  rw [cell_of_only ho h.plw (fun h => h)]
  exact h.pl hk

theorem st36 (p : Inp) (hp : p.ok) (c : Cfg) (role : Nat → Nat) (pp : Par) (hl : Lay c role pp) (hcn : c.n = p.n) (hcl : c.last = p.last) (B CA PL : Nat) (v : Value) (g : Option Nat) (hPLe : c.PL = PL) (w : World) (hF : Fin' p c pp B CA v g w) (T : Array Value) (Q : Exit → Act → World → Prop) (hT : T.size = 735) (t2 : T[2]?.getD undef = .bool p.keep) (t23 : T[23]?.getD undef = .int .i64 p.n) (t24 : T[24]?.getD undef = .int .i64 p.last) (t51 : T[51]?.getD undef = .pointer (some ⟨PL, 0, none⟩)) (t59 : T[59]?.getD undef = .pointer (some ⟨CA, 0, none⟩))
    (hQ : ∀ T' w', Keeps 81 734 [79, 80] T T' → Only (fun _ => False) w w' → Q .normal ⟨T', []⟩ w') : (ptOf Yba.f3 36).wp Yba.prog Q ⟨T, []⟩ w := by
  conv in (ptOf Yba.f3 36) => whnf
  have HQ := hidP hQ
  have HF := hidP hF
  have HP := hidP hp
  have HL := hidP hl
  have HE := hidP hPLe
  have HCN := hidP hcn
  have HCL := hidP hcl
  have hn6 := hp.n6
  have hn1 := hp.n1
  have hl5 := hp.l5
  have a2 : T[2]'(by omega) = _ := at_of _ t2
  have a23 : T[23]'(by omega) = _ := at_of _ t23
  have a24 : T[24]'(by omega) = _ := at_of _ t24
  have a51 : T[51]'(by omega) = _ := at_of _ t51
  clear hQ hF hp hl hPLe hcn hcl
  go_upto_if 688 with fail
  refine wp_cond_at p.keep (by simp [Act.eval, hT]) (fun hk => ?_) (fun hk => ?_)
  · obtain ⟨CO, hCO⟩ : ∃ CO, CO = pp.CO := ⟨_, rfl⟩
    obtain ⟨NN, hNN⟩ : ∃ NN, NN = p.last * p.n := ⟨_, rfl⟩
    have hNI : (p.last : Int) * (p.n : Int) = (NN : Int) := by rw [hNN]; push_cast; rfl
    have hNB : NN ≤ 5 * 6 := by rw [hNN]; exact Nat.mul_le_mul hl5 hn6
    have wNN : IntKind.i64.wrap (NN : Int) = (NN : Int) := by rw [IntKind.wrap_i64]; omega
    have cPL : w.cell? ⟨PL, 16, none⟩ = some (.slice (some ⟨CO, 0, none⟩) NN NN) := by
      have := HF.out.pl hk
      rw [HE.out, ← hCO, ← hNN] at this
      exact this
    have HK1 := hidP (And.intro hk (And.intro hCO hNN))
    clear hk hCO hNN
    go_upto_if 697 with fail
    refine wp_cond_at false (by simp [Act.eval, hT]) (fun h => by cases h) (fun _ => ?_)
    refine gen_frame (fun T2 => T2.size = 735 ∧ Keeps 81 734 [79, 80] T T2) ⟨by simp [hT], ?_⟩ ?_
    · repeat (refine Keeps.put ?_ _ _ (by first | exact .inr ⟨by decide, by decide⟩ | exact .inl (by decide)))
      exact Keeps.refl
    clear a2 a23 a24 a51
    rintro T2 ⟨hT2, hK2⟩
    have HK2 := hidP hK2
    clear hK2
    go_upto_block 38 with fail
    have hK2' : Keeps 81 734 [79, 80] T (T2.setIfInBounds 79 (.int .i64 0)) := HK2.out.put _ _ (.inl (by decide))
    have hk := HK1.out.1
    have hca := HF.out.ca
    have e : cmK c p.keep (endR c pp p.last 1) ((stopR c pp (endR c pp p.last 1)).getD c.n) = cmAt c (endR c pp p.last 1) ((stopR c pp (endR c pp p.last 1)).getD c.n) := by
      unfold cmK
      rw [if_pos hk]
    refine f3_38 p HP.out PL CA pp.CO c.base g (cmK c p.keep (endR c pp p.last 1) ((stopR c pp (endR c pp p.last 1)).getD c.n)) (fun k hk2 => ?_) w ?_ ?_ ?_ hca _ _ (by simp [hT2]) (hK2'.get t23 (by decide) (by decide)) (hK2'.get t24 (by decide) (by decide)) (hK2'.get t51 (by decide) (by decide)) (hK2'.get t59 (by decide) (by decide)) (by simp [hT2]) ?_
    · have := cmK_form c p.keep (endR c pp p.last 1) ((stopR c pp (endR c pp p.last 1)).getD c.n) p.last (by omega) k (by rw [HCN.out]; exact hn1) (by rw [HCN.out]; exact hk2)
      rw [HCN.out] at this ⊢
      exact this
    · have := HF.out.pl hk
      rw [HE.out] at this
      exact this
    · rw [← HE.out]
      exact HF.out.plw
    · rw [e]
      exact HF.out.co hk
    · intro T3 w3 hK3 ho3
      exact HQ.out T3 w3 (hK2'.trans hK3) ho3
  · go_wp2_with fail
    refine HQ.out _ _ ?_ Only.refl
    repeat (refine Keeps.put ?_ _ _ (by first | exact .inr ⟨by decide, by decide⟩ | exact .inl (by decide)))
    exact Keeps.refl

theorem st5 (p : Inp) (hp : p.ok) (c : Cfg) (role : Nat → Nat) (pp : Par) (hl : Lay c role pp) (hcn : c.n = p.n) (hcr : c.cr = upTo p.n p.crA) (hcl : c.last = p.last) (hdec : c.dec = p.dcA) (B CA PL L OU : Nat) (v : Value) (g : Option Nat) (hLe : c.L = L) (hPLe : c.PL = PL) (hOUe : c.OU = OU) (w : World) (hF : Fin' p c pp B CA v g w) (T : Array Value) (Q : Exit → Act → World → Prop) (hT : T.size = 735) (t2 : T[2]?.getD undef = .bool p.keep) (t23 : T[23]?.getD undef = .int .i64 p.n) (t24 : T[24]?.getD undef = .int .i64 p.last) (t25 : T[25]?.getD undef = .pointer (some ⟨B, 0, none⟩)) (t27 : T[27]?.getD undef = .pointer (some ⟨B + 2, 0, none⟩)) (t35 : T[35]?.getD undef = .func (.func 8) #[] #[.pointer (some ⟨B, 0, none⟩)]) (t51 : T[51]?.getD undef = .pointer (some ⟨PL, 0, none⟩)) (t52 : T[52]?.getD undef = .pointer (some ⟨L, 0, none⟩)) (t57 : T[57]?.getD undef = .slice (some ⟨OU, 0, none⟩) p.n p.n) (t58 : T[58]?.getD undef = v) (t59 : T[59]?.getD undef = .pointer (some ⟨CA, 0, none⟩)) (t60 : T[60]?.getD undef = .int .i64 (endR c pp p.last 1))
    (hQ : ∀ T' w', T'.size = 735 → T'[22]?.getD undef = .bool true → Only (fun _ => False) w w' → Code.ret.wp Yba.prog Q ⟨T', []⟩ w') : (tlOf Yba.f3 32).wp Yba.prog Q ⟨T, []⟩ w := by
  conv in (tlOf Yba.f3 32) => whnf
  obtain ⟨lv, hLr, hLo, hg⟩ := hF.lg
  obtain ⟨xs, hxs⟩ : ∃ xs, xs = runL c pp p.last 1 := ⟨_, rfl⟩
  have hxl : xs.length ≤ 900000 := by
    rw [hxs]
    have := runL_len c role pp hl p.last 1
    have := hp.l5
    omega
  have hwv := hF.wv
  rw [← hxs] at hLo hwv
  obtain ⟨la, lc, hlv⟩ : ∃ a k, lv = .slice a xs.length k := by
    rcases hLo.2 with ⟨e, e2⟩ | ⟨g', cap, cur, e, _⟩
    · exact ⟨none, 0, by rw [e, e2]⟩
    · exact ⟨_, _, e⟩
  obtain ⟨va, vc, hvv⟩ : ∃ a k, v = .slice a xs.length k := by
    rcases hwv.2 with ⟨e, e2⟩ | ⟨g', cap, cur, e, _⟩
    · exact ⟨none, 0, by rw [e, e2]⟩
    · exact ⟨_, _, e⟩
  rw [hLe] at hLr
  obtain ⟨N, hN⟩ : ∃ N, N = xs.length := ⟨_, rfl⟩
  have cL : w.cell? ⟨L, 0, none⟩ = some (.slice la N lc) := by rw [hN, ← hlv]; exact hLr.cell 0 (by omega)
  rw [hvv, ← hN] at t58
  have HQ := hidP hQ
  have HF := hidP hF
  have HP := hidP hp
  have HL := hidP hl
  have H0 := hidP (And.intro hLr (And.intro hLo (And.intro hwv (And.intro hlv (And.intro hvv (And.intro hN hxl))))))
  have HE := hidP (And.intro hLe (And.intro hPLe (And.intro hOUe (And.intro hcn (And.intro hcr (And.intro hcl hdec))))))
  have hn6 := hp.n6
  have hn1 := hp.n1
  have hl5 := hp.l5
  clear hQ hF hp hl hLe hPLe hOUe hLr hLo hwv hlv hvv hN hxl hcn hcr hcl hdec hxs hg
  have a52 : T[52]'(by omega) = _ := at_of _ t52
  have a58 : T[58]'(by omega) = _ := at_of _ t58
  refine wp_seq_k ?_
  intro K hK
  have HK := hidP hK
  clear hK
  go_upto_if 633 with fail
  refine wp_cond_at false (by simp [Act.eval, hT]) (fun h => by cases h) (fun _ => ?_)
  go_wp2_with fail
  refine HK.out _ _ ?_
  clear HK K
  refine gen_frame (fun T2 => T2.size = 735 ∧ Keeps 81 734 [22, 75, 76, 77, 78, 79, 80] T T2) ⟨by simp [hT], ?_⟩ ?_
  · repeat (refine Keeps.put ?_ _ _ (by first | exact .inr ⟨by decide, by decide⟩ | exact .inl (by decide)))
    exact Keeps.refl
  clear a52 a58
  rintro T2 ⟨hT2, hK2⟩
  have HK2 := hidP hK2
  clear hK2
  -- the logs
  refine wp_seq_k ?_
  intro K hK
  have HK := hidP hK
  clear hK
  go_upto_block 34 with fail
  have hK2' : Keeps 81 734 [22, 75, 76, 77, 78, 79, 80] T (T2.setIfInBounds 75 (.int .i64 0)) := HK2.out.put _ _ (.inl (by decide))
  obtain ⟨e1, e2, e3, e4, e5, e6, e7⟩ := H0.out
  refine f3_34 c.base B L xs e7 lv va vc w e1 e2 (by rw [← e5]; exact e3) _ _ (by simp [hT2]) (hK2'.get t52 (by decide) (by decide)) (by rw [← e6]; exact hK2'.get t58 (by decide) (by decide)) (by simp [hT2]) ?_
  intro T3 w3 hK3 ho3
  refine HK.out _ _ ?_
  clear HK K
  have hT3 : T3.size = 735 := hK3.1.trans (by simp [hT2])
  have hK3' : Keeps 81 734 [22, 75, 76, 77, 78, 79, 80] T T3 := hK2'.trans (hK3.mono (fun i hi => .inl (by simp at hi; simp [hi])) (by decide) (by decide))
  have b57 := hK3'.at' hT3 57 (by decide) t57 (by decide) (by decide)
  have b23 := hK3'.at' hT3 23 (by decide) t23 (by decide) (by decide)
  have HK3 := hidP hK3'
  have HO3 := hidP ho3
  clear hK3 hK3' ho3 hK2' HK2 e1 e2 e3 e4 e5 e6 e7 cL
  -- how many outcomes
  refine wp_seq_k ?_
  intro K hK
  have HK := hidP hK
  clear hK
  go_upto_if 652 with fail
  refine wp_cond_at false (by simp [Act.eval, hT3]) (fun h => by cases h) (fun _ => ?_)
  go_wp2_with fail
  refine HK.out _ _ ?_
  clear HK K
  refine gen_frame (fun T2 => T2.size = 735 ∧ Keeps 81 734 [22, 75, 76, 77, 78, 79, 80] T T2) ⟨by simp [hT3], ?_⟩ ?_
  · repeat (refine Keeps.put ?_ _ _ (by first | exact .inr ⟨by decide, by decide⟩ | exact .inl (by decide)))
    exact HK3.out
  clear b57 b23 HK3
  rintro T4 ⟨hT4, hK4⟩
  have HK4 := hidP hK4
  clear hK4
  -- the outcomes
  refine wp_seq_k ?_
  intro K hK
  have HK := hidP hK
  clear hK
  go_upto_block 36 with fail
  have hK4' : Keeps 81 734 [22, 75, 76, 77, 78, 79, 80] T (T4.setIfInBounds 76 (.int .i64 1)) := HK4.out.put _ _ (.inl (by decide))
  obtain ⟨f1, f2, f3, f4, f5, f6, f7⟩ := HE.out
  have hF3 := HF.out.only HO3.out
  have hR : endR c pp p.last 1 ≤ 100 := by
    have := endR_le c pp p.last 1 (by omega)
    omega
  have hO : Row w3 OU 71 (p.n * 5) (outM c.cr (dtAt c (endR c pp p.last 1))) := by rw [← f3]; exact hF3.ou
  refine f3_36 p HP.out c f5 (fun q h1 h2 => by rw [f7]; unfold upTo; rw [if_pos ⟨h1, h2⟩]) B OU (endR c pp p.last 1) w3 hF3.C hF3.D hO hR _ _ (by simp [hT4]) (hK4'.get t23 (by decide) (by decide)) (hK4'.get t25 (by decide) (by decide)) (hK4'.get t27 (by decide) (by decide)) (hK4'.get t35 (by decide) (by decide)) (hK4'.get t57 (by decide) (by decide)) (hK4'.get t60 (by decide) (by decide)) (by simp [hT4]) ?_
  intro T5 w5 hK5 ho5
  refine HK.out _ _ ?_
  clear HK K
  have hT5 : T5.size = 735 := hK5.1.trans (by simp [hT4])
  have hK5' : Keeps 81 734 [22, 75, 76, 77, 78, 79, 80] T T5 := hK4'.trans (hK5.mono (fun i hi => .inl (by simp at hi; simp; omega)) (by decide) (by decide))
  -- the cores
  refine wp_seq_k ?_
  intro K hK
  refine st36 p HP.out c role pp HL.out f4 f6 B CA PL v g f2 w5 (hF3.only ho5) T5 _ hT5 (hK5'.get t2 (by decide) (by decide)) (hK5'.get t23 (by decide) (by decide)) (hK5'.get t24 (by decide) (by decide)) (hK5'.get t51 (by decide) (by decide)) (hK5'.get t59 (by decide) (by decide)) ?_
  intro T6 w6 hK6 ho6
  refine hK _ _ ?_
  have hT6 : T6.size = 735 := hK6.1.trans hT5
  refine wp_seq_k ?_
  intro K2 hK2
  have HK2 := hidP hK2
  clear hK2
  go_wp2_with fail
  refine HK2.out _ _ ?_
  exact HQ.out _ _ (by simp [hT6]) (by simp [hT6]) ((HO3.out.trans ho5).trans ho6)
end Go.Proofs.Ybulkcawy
