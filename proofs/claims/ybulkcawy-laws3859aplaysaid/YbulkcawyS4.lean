/-
  LawS3859APlay: the run, and the wanted log.
-/
import Derived.Test.YbulkcawyS4a
import Derived.Test.YbulkcawyF3L
namespace Go.Proofs.Ybulkcawy
open Go.RowKit
set_option linter.unusedSimpArgs false
set_option linter.unusedVariables false
set_option maxRecDepth 100000
set_option maxHeartbeats 4000000

theorem runL_len (c : Cfg) (role : Nat → Nat) (p : Par) (hl : Lay c role p) : ∀ k r, (runL c p k r).length ≤ 300 * k
  | 0, _ => by simp [runL]
  | k + 1, r => by
    have hn := hl.ap.small
    have h1 := headL_len c r
    have h2 := recvsL_len c role p hl r c.n
    have h3 : (coreLr c p r).length ≤ 36 := by
      unfold coreLr
      split
      · have h4 : (stopR c p r).getD c.n ≤ 6 := by
          cases e : stopR c p r with
          | none => show c.n ≤ 6; omega
          | some j =>
            unfold stopR at e
            by_cases hk : p.keep = true
            · rw [if_pos hk] at e
              have := (stopK_le _ _ _ _ e).2
              show j ≤ 6
              omega
            · rw [if_neg hk] at e
              cases e
        have := coresL_len c.cr (fun _ => r) r ((stopR c p r).getD c.n)
        omega
      · simp
    have h5 := givesL_len c.cr r c.n
    have h6 := runL_len c role p hl k (r + 1)
    unfold runL
    rw [List.length_append, List.length_append, List.length_append]
    split
    · simp; omega
    · rw [List.length_append]
      split
      · omega
      · simp; omega

/-- What the rest compares. -/
structure Fin' (p : Inp) (c : Cfg) (pp : Par) (B CA : Nat) (v : Value) (g : Option Nat) (w : World) : Prop where
  lg : LogAt w c.base c.L (runL c pp p.last 1) g
  wv : w.ownsRow B 3 1 v (runL c pp p.last 1).length (intsV (runL c pp p.last 1))
  ou : Row w c.OU 71 (p.n * 5) (outM c.cr (dtAt c (endR c pp p.last 1)))
  C : Row w B 23 7 (fun k => .int .i64 (upTo p.n p.crA k))
  D : Row w (B + 2) 23 7 (fun k => .int .i64 (upTo p.n p.dcA k))
  ca : Row w CA 78 36 (fun x => .int .i64 (caOf (cmK c p.keep (endR c pp p.last 1) ((stopR c pp (endR c pp p.last 1)).getD c.n)) x))
  co : p.keep = true → Cores w c.base pp.CO (p.last * p.n) g (cmAt c (endR c pp p.last 1) ((stopR c pp (endR c pp p.last 1)).getD c.n))
  pl : p.keep = true → w.cell? ⟨c.PL, 16, none⟩ = some (.slice (some ⟨pp.CO, 0, none⟩) (p.last * p.n) (p.last * p.n))
  plw : c.PL < w.heap.size

theorem t78zero : Yba.t78.zero = some (.agg (Array.replicate 36 (.int .i64 0))) := by kernel_rfl
theorem zero78 (w : World) : Sem.run Yba.prog (zeroValue 78) w = .ok (.agg (Array.replicate 36 (.int .i64 0))) w := by
  simp [zeroValue, go_sem, t78zero]

/-- What the tables are worth when only blocks from EB on have turned. -/
theorem Tabs.later {p : Inp} {B EB : Nat} {cv ov ev : Value} {w w' : World} (h : Tabs p B cv ov ev w) (hE : EB = w.heap.size) (ho : Only (fun b => EB ≤ b) w w') : Tabs p B cv ov ev w' := by
  have key : ∀ b, b < w.heap.size → w'.heap[b]? = w.heap[b]? := fun b hb => ho.block b hb (by omega)
  refine ⟨h.C.of_block (key _ h.C.lt), h.RM.of_block (key _ h.RM.lt), h.D.of_block (key _ h.D.lt), h.L.of_block (key _ h.L.lt), ?_, ?_, own_of_block h.ev fun g hg => key g (own_lt3 h.ev hg)⟩
  · obtain ⟨tvs, a1, a2, a3⟩ := h.cs
    exact ⟨tvs, a1, own_of_block a2 fun g hg => key g (own_lt3 a2 hg), fun k hk hk' => own_of_block (a3 k hk hk') fun g hg => key g (own_lt3 (a3 k hk hk') hg)⟩
  · obtain ⟨tvs, a1, a2, a3⟩ := h.os
    exact ⟨tvs, a1, own_of_block a2 fun g hg => key g (own_lt3 a2 hg), fun k hk hk' => own_of_block (a3 k hk hk') fun g hg => key g (own_lt3 (a3 k hk hk') hg)⟩

theorem st4 (p : Inp) (hp : p.ok) (B EB s1 s2 PL g1 g2 g3 g4 PR OU SE IN : Nat) (fav : Value) (fl : List Nat) (reV loV : Nat → Value) (cv ov ev : Value) (wT w w1 : World) (hBT : B ≤ wT.heap.size) (hEB : EB = wT.heap.size) (htab : Tabs p B cv ov ev wT) (hoT : Only (fun b => EB ≤ b) wT w1) (hs2 : s2 = w.heap.size) (hR : Rdy p EB s1 PL g1 g2 g3 g4 PR OU SE IN fav fl reV loV w) (h : Rn p EB s2 PL g1 g2 g3 g4 PR OU SE IN fav ev w w1)
    (T : Array Value) (Q : Exit → Act → World → Prop) (hT : T.size = 735) (t2 : T[2]?.getD undef = .bool p.keep) (t23 : T[23]?.getD undef = .int .i64 p.n) (t24 : T[24]?.getD undef = .int .i64 p.last) (t25 : T[25]?.getD undef = .pointer (some ⟨B, 0, none⟩)) (t26 : T[26]?.getD undef = .pointer (some ⟨B + 1, 0, none⟩)) (t28 : T[28]?.getD undef = .pointer (some ⟨B + 3, 0, none⟩)) (t35 : T[35]?.getD undef = .func (.func 8) #[] #[.pointer (some ⟨B, 0, none⟩)]) (t43 : T[43]?.getD undef = ev) (t49 : T[49]?.getD undef = .pointer (some ⟨EB, 0, none⟩)) (t51 : T[51]?.getD undef = .pointer (some ⟨PL, 0, none⟩))
    (hQ : ∀ T' w' c pp role v g CA, Lay c role pp → c.n = p.n → c.cr = upTo p.n p.crA → c.last = p.last → pp.keep = p.keep → c.dec = p.dcA → c.L = s2 → c.PL = PL → c.OU = OU → Keeps 81 734 [57, 58, 59, 60, 61, 62, 63, 64, 65, 66, 67, 68, 69, 70, 71, 72, 73, 74] T T' → T'[57]?.getD undef = .slice (some ⟨OU, 0, none⟩) p.n p.n → T'[58]?.getD undef = v → T'[59]?.getD undef = .pointer (some ⟨CA, 0, none⟩) → T'[60]?.getD undef = .int .i64 (endR c pp p.last 1) → Fin' p c pp B CA v g w' → Only (fun b => EB ≤ b) wT w' → (tlOf Yba.f3 32).wp Yba.prog Q ⟨T', []⟩ w') : (tlOf Yba.f3 25).wp Yba.prog Q ⟨T, []⟩ w1 := by
  conv in (tlOf Yba.f3 25) => whnf
  obtain ⟨c, hc⟩ : ∃ c, c = cfgOf p EB s2 w1.heap.size PL g1 g2 g3 g4 PR OU SE IN fav ev reV loV := ⟨_, rfl⟩
  obtain ⟨pp, hpp⟩ : ∃ pp, pp = parOf p EB s2 w1.heap.size fl := ⟨_, rfl⟩
  obtain ⟨role, hrole⟩ : ∃ role, role = roleOf w1 EB s2 p.n w1.heap.size g1 g2 SE := ⟨_, rfl⟩
  have hl : Lay c role pp := by rw [hc, hpp, hrole]; exact lay_of hp hs2 hR h
  have hown : w1.ownsRow B 40 3 ev (allE p (p.last + 1)).length (evsV (allE p (p.last + 1))) := (htab.later hEB hoT).ev
  have hevl : ∀ b, ev.ownBlock = some b → b < EB := fun b hb => by rw [hEB]; exact own_lt3 htab.ev hb
  have hb : Before c role pp (if p.keep then allE p (p.last + 1) else []) w1 := by rw [hc, hpp, hrole]; exact before_of hp B hs2 hR h hown hevl
  have hcall := playFrom c role pp hl _ w1 hb
  have cPL : c.PL = PL := by rw [hc]; rfl
  have cOU : c.OU = OU := by rw [hc]; rfl
  have cn : c.n = p.n := by rw [hc]; rfl
  have cl : c.last = p.last := by rw [hc]; rfl
  have cL : c.L = s2 := by rw [hc]; rfl
  have ccr : c.cr = upTo p.n p.crA := by rw [hc]; rfl
  have cdec : c.dec = p.dcA := by rw [hc]; rfl
  have pk : pp.keep = p.keep := by rw [hpp]; rfl
  have ps : pp.s = p.stopA := by rw [hpp]; rfl
  have pS : pp.S = EB := by rw [hpp]; rfl
  have hrecv : ∀ r, 1 ≤ r → r ≤ p.last → recvsL c pp r c.n = wantsR p r p.n := fun r h1 h2 => by
    rw [cn]
    exact recv_want p hp c pp (dSB p 0 0 0 0 0 0 0 0 0 0 0 .nilIface .nilIface) cn ccr rfl rfl pk (by rw [hpp]; rfl) (by rw [hpp]; exact hR.flm) (by rw [hpp]; rfl) (by rw [hpp]; rfl) (by rw [hpp]; rfl) r h1 h2 p.n (Nat.le_refl _)
  have hSrow : Row w1 EB 3 1 (fun _ => .int .i64 p.stopA) := h.row hR hR.rS (by decide) (by decide) (by decide) (by decide)
  have hnS : ¬ Touch c role EB := by
    have l := hR.low
    have u := hR.hi
    have z := hR.sz
    have q1 := hSrow.lt
    have hr : role EB = 12 := by
      rw [hrole]
      refine (role_row rfl hSrow (Nat.le_refl _) _).trans ?_
      have h1 : EB ≠ g1 := by omega
      have h2 : EB ≠ s2 + 2 + p.n := by omega
      simp [roleT, h1, h2]
    unfold Touch
    rw [hr]
    have : c.base = w1.heap.size + 2 := by rw [hc]; rfl
    omega
  have hnPL : ¬ Touch c role PL := by
    have := not_touch (c := c) (role := role) hl.ap.bpl hl.ap.pl (by simp)
    rw [cPL] at this
    exact this
  have hpl1 : p.keep = true → w1.cell? ⟨PL, 16, none⟩ = some (.slice (some ⟨pp.CO, 0, none⟩) (p.last * p.n) (p.last * p.n)) := fun hk => by
    refine (h.pl.cell 16 (by omega)).trans ?_
    show some (coV p s2) = _
    rw [hpp]
    simp [coV, hk, parOf]
  have hplw := h.pl.lt
  have hebT : ∀ b, Touch c role b → EB ≤ b := fun b hb => by have := hl.eb b hb; rw [hpp] at this; exact this
  rw [cPL, cOU, cn] at hcall
  have HC := hidP hcall
  have HL := hidP hl
  have HRV := hidP hrecv
  have HQ := hidP hQ
  have HT := hidP (And.intro htab (And.intro hoT (And.intro hSrow (And.intro hnS (And.intro hnPL (And.intro hpl1 hebT))))))
  have HE := hidP hEB
  have HP := hidP hp
  have HI := hidP (And.intro cn (And.intro ccr (And.intro cl (And.intro pk (And.intro cdec (And.intro cL (And.intro cPL (And.intro cOU ps))))))))
  have a51 : T[51]'(by omega) = _ := at_of _ t51
  have a24 : T[24]'(by omega) = _ := at_of _ t24
  obtain ⟨n, hn⟩ : ∃ n, n = p.n := ⟨_, rfl⟩
  have HN := hidP hn
  clear hcall hl hrecv hQ htab hoT hSrow hnS hnPL hpl1 hebT hEB hp cPL cOU cn cl cL ccr cdec pk ps pS hown hevl hb hc hpp hrole hR h hn
  refine wp_seq_k ?_
  intro K hK
  have HK := hidP hK
  clear hK
  go_wp2_with (go_at_call 15; refine HC.out.mono ?_; rintro e w2 ⟨rfl, g', hlog, hou, hco, ho2⟩)
  have H2 := hidP (And.intro hlog (And.intro hou (And.intro hco ho2)))
  clear hlog hou hco ho2 HC
  obtain ⟨Z, hZ⟩ : ∃ Z : Array Value, Z = Array.replicate 36 (.int .i64 0) := ⟨_, rfl⟩
  have z78 := zero78
  rw [← hZ] at z78
  have HZ := hidP hZ
  clear hZ
  refine HK.out _ _ ?_
  clear HK K
  refine wp_seq_k ?_
  intro K hK
  have HK := hidP hK
  clear hK
  go_wp2_with fail
  refine HK.out _ _ ?_
  clear HK K
  refine wp_seq_k ?_
  intro K hK
  have HK := hidP hK
  clear hK
  go_wp2_with fail
  refine HK.out _ _ ?_
  clear HK K
  refine wp_seq_k ?_
  intro K hK
  have HK := hidP hK
  clear hK
  go_wp2_with fail
  refine HK.out _ _ ?_
  clear HK K
  refine wp_seq_k ?_
  intro K hK
  have HK := hidP hK
  clear hK
  go_wp2_with fail
  refine HK.out _ _ ?_
  clear HK K
  refine wp_seq_k ?_
  intro K hK
  have HK := hidP hK
  clear hK
  go_wp2_with fail
  refine HK.out _ _ ?_
  clear HK K
  refine gen_both (fun T2 w3 => T2.size = 735 ∧ Keeps 81 734 [57, 58, 59, 60, 61, 62, 63, 64, 65, 66, 67, 68, 69, 70, 71, 72, 73, 74] T T2 ∧ T2[57]?.getD undef = .slice (some ⟨OU, 0, none⟩) p.n p.n ∧ T2[58]?.getD undef = .slice none 0 0 ∧ T2[59]?.getD undef = .pointer (some ⟨w2.heap.size, 0, none⟩) ∧ T2[60]?.getD undef = .int .i64 p.last ∧ T2[61]?.getD undef = .int .i64 0 ∧ T2[62]?.getD undef = .bool false ∧ Row w3 w2.heap.size 78 36 (fun _ => .int .i64 0) ∧ Only (fun _ => False) w2 w3) ⟨by simp [hT], ?_, by simp [hT, a24], by simp [hT, a24], by simp [hT, a24], by simp [hT, a24], by simp [hT, a24], by simp [hT, a24], ?_, Only.refl.alloc _⟩ ?_
  · repeat (refine Keeps.put ?_ _ _ (by first | exact .inr ⟨by decide, by decide⟩ | exact .inl (by decide)))
    exact Keeps.refl
  · rw [HZ.out]
    exact Row.rep _ _ _ _
  clear a51 a24 z78 HZ
  clear Z
  rintro T2 w3 ⟨hT2, hK2, s57, s58, s59, s60, s61, s62, hCA, ho3⟩
  have c57 : T2[57]'(by omega) = _ := at_of _ s57
  have c58 : T2[58]'(by omega) = _ := at_of _ s58
  have c59 : T2[59]'(by omega) = _ := at_of _ s59
  have c60 : T2[60]'(by omega) = _ := at_of _ s60
  have c61 : T2[61]'(by omega) = _ := at_of _ s61
  have c62 : T2[62]'(by omega) = _ := at_of _ s62
  have HK2 := hidP hK2
  refine wp_seq_k ?_
  intro K hK
  have HK := hidP hK
  clear hK
  go_upto_block 18 with fail
  have hK2' : Keeps 81 734 [57, 58, 59, 60, 61, 62, 63, 64, 65, 66, 67, 68, 69, 70, 71, 72, 73, 74] T (T2.setIfInBounds 63 (.int .i64 1)) := HK2.out.put _ _ (.inl (by decide))
  have o13 : Only (fun b => EB ≤ b) w1 w3 := (H2.out.2.2.2.mono (fun b _ e => HT.out.2.2.2.2.2.2 b e)).trans' ho3 (fun b _ e => e.elim)
  have oT3 := HT.out.2.1.trans o13
  have tab3 := HT.out.1.later HE.out oT3
  have hS3 : Row w3 EB 3 1 (fun _ => .int .i64 p.stopA) := (HT.out.2.2.1.only H2.out.2.2.2 HT.out.2.2.2.1).only ho3 (fun h => h)
  have he : WEnv p B w2.heap.size EB ev w3 := ⟨tab3.C, tab3.RM, tab3.L, tab3.ev, hS3, _, hCA⟩
  refine f3_18 p HP.out c pp HI.out.1 HI.out.2.1 HI.out.2.2.1 HI.out.2.2.2.1 HI.out.2.2.2.2.2.2.2.2 HRV.out B w2.heap.size EB ev w3 he (by have := oT3.size; omega) hCA _ _ (by simp [hT2]) (hK2'.get t2 (by decide) (by decide)) (hK2'.get t23 (by decide) (by decide)) (hK2'.get t24 (by decide) (by decide)) (hK2'.get t25 (by decide) (by decide)) (hK2'.get t26 (by decide) (by decide)) (hK2'.get t28 (by decide) (by decide)) (hK2'.get t35 (by decide) (by decide)) (hK2'.get t43 (by decide) (by decide)) (hK2'.get t49 (by decide) (by decide)) (by simp [hT2, c59]) (by simp [hT2, c58]) (by simp [hT2, c60]) (by simp [hT2, c61]) (by simp [hT2, c62]) (by simp [hT2]) ?_
  intro T3 w4 v hK3 u58 u60 hW hca
  refine HK.out _ _ ?_
  clear HK K
  have hT3 : T3.size = 735 := hK3.1.trans (by simp [hT2])
  have o24 : Only (fun _ => False) w2 w4 := ho3.trans' hW.2.2 (fun b hb e => by omega)
  have hlg : LogAt w4 c.base c.L (runL c pp c.last 1) g' := H2.out.1.only o24 (fun h => h) (fun b _ h => h)
  have hou4 := H2.out.2.1.only o24 (fun h => h)
  rw [HI.out.2.2.1] at hlg hou4
  have oT4 : Only (fun b => EB ≤ b) wT w4 := (HT.out.2.1.trans (H2.out.2.2.2.mono (fun b _ e => HT.out.2.2.2.2.2.2 b e))).trans' o24 (fun b _ e => e.elim)
  have tab4 := HT.out.1.later HE.out oT4
  refine HQ.out T3 w4 c pp role v g' w2.heap.size HL.out HI.out.1 HI.out.2.1 HI.out.2.2.1 HI.out.2.2.2.1 HI.out.2.2.2.2.1 HI.out.2.2.2.2.2.1 HI.out.2.2.2.2.2.2.1 HI.out.2.2.2.2.2.2.2.1 (hK2'.trans (hK3.mono (fun i hi => .inl (by simp at hi; simp; omega)) (by decide) (by decide))) (hK3.get (by simp [hT2, c57]) (by decide) (by decide)) u58 (hK3.get (by simp [hT2, c59]) (by decide) (by decide)) u60 ⟨hlg, hW.1, ?_, tab4.C, tab4.D, hca, fun hk => ?_, fun hk => ?_, ?_⟩ oT4
  · have e1 := HI.out.2.2.2.2.2.2.2.1
    rw [e1]
    exact hou4
  · have h1 := H2.out.2.2.1 (HI.out.2.2.2.1.trans hk)
    have h2 := h1.only o24 (NewG.refl _ _) (fun h => h) (fun b _ h => h.elim)
    rw [HI.out.2.2.1] at h2
    rw [HI.out.1]
    exact h2
  · have h1 := HT.out.2.2.2.2.2.1 hk
    rw [HI.out.2.2.2.2.2.2.1, cell_of_only o24 (by have := H2.out.2.2.2.size; omega) (fun h => h), cell_of_only H2.out.2.2.2 (by omega) HT.out.2.2.2.2.1]
    exact h1
  · rw [HI.out.2.2.2.2.2.2.1]
    have := H2.out.2.2.2.size
    have := o24.size
    omega
end Go.Proofs.Ybulkcawy
