/-
  LawS3859APlay: all stands for the run.
-/
import Derived.Test.YbulkcawyS3a
namespace Go.Proofs.Ybulkcawy
open Go.RowKit
set_option linter.unusedSimpArgs false
set_option linter.unusedVariables false
set_option maxRecDepth 100000
set_option maxHeartbeats 4000000

def kpV (p : Inp) (s2 : Nat) : Value := if p.keep then .slice (some ⟨s2 + p.n + 3, 0, none⟩) (p.n + 1) (p.n + 1) else .slice none 0 0
def coV (p : Inp) (s2 : Nat) : Value := if p.keep then .slice (some ⟨s2 + p.n + 4, 0, none⟩) (p.last * p.n) (p.last * p.n) else .slice none 0 0
def evV (p : Inp) (ev : Value) : Value := if p.keep then ev else .slice none 0 0
def yiV (p : Inp) (s2 EB : Nat) : Value := if p.keep then .func (.func 14) #[] #[.pointer (some ⟨s2 + 2 + p.n, 0, none⟩), .pointer (some ⟨s2, 0, none⟩), .pointer (some ⟨EB, 0, none⟩)] else .nilFunc
def meV (s2 : Nat) : Value := .func (.func 12) #[] #[.pointer (some ⟨s2, 0, none⟩)]
def plE (p : Inp) (EB s2 g1 g2 g3 g4 PR OU SE IN : Nat) (fav ev : Value) (k : Nat) : Value :=
  if k = 17 then yiV p s2 EB else if k = 16 then coV p s2 else if k = 15 then evV p ev else if k = 14 then kpV p s2 else if k = 18 then meV s2 else if k = 8 then fav else plN p.n p.last g1 g2 g3 g4 PR OU SE IN k
/-- What stands ahead of the run. -/
structure Rn (p : Inp) (EB s2 PL g1 g2 g3 g4 PR OU SE IN : Nat) (fav ev : Value) (w w' : World) : Prop where
  pl : Row w' PL 59 19 (plE p EB s2 g1 g2 g3 g4 PR OU SE IN fav ev)
  rPR : Row w' PR 69 (p.n + 1) (procJ (s2 + 2) (p.n + 1))
  rOU : Row w' OU 71 (p.n * 5) (outJ (upTo p.n p.crA) p.n)
  rSE : Row w' SE 20 (p.n + 1) (sentJ (p.n + 1))
  ap : ∀ x, 1 ≤ x → x ≤ p.n → Row w' (s2 + 2 + (x - 1)) 67 4 (aprocM x (upTo p.n p.dcA x) 0 s2)
  rL : Row w' s2 29 1 (fun _ => .slice none 0 0)
  rPS : Row w' (s2 + 1) 64 (p.n + 1) (psJ (s2 + 2) (p.n + 1))
  rY : Row w' (s2 + 2 + p.n) 3 1 (fun _ => .int .i64 0)
  kp : p.keep = true → Row w' (s2 + p.n + 3) 74 (p.n + 1) (procJ (s2 + 2) (p.n + 1))
  co : p.keep = true → Row w' (s2 + p.n + 4) 37 (p.last * p.n) (fun _ => .slice none 0 0)
  sz : w'.heap.size = s2 + p.n + (if p.keep then 5 else 3)
  only : Only (fun b => b = PL ∨ b = PR ∨ b = OU ∨ b = SE) w w'

theorem st3 (p : Inp) (hp : p.ok) (B EB s1 s2 PL g1 g2 g3 g4 PR OU SE IN : Nat) (fav : Value) (fl : List Nat) (reV loV : Nat → Value) (ev : Value) (hev : ∃ a l k, ev = .slice a l k) (w : World) (hs2 : s2 = w.heap.size) (hR : Rdy p EB s1 PL g1 g2 g3 g4 PR OU SE IN fav fl reV loV w) (hD : Row w (B + 2) 23 7 (fun k => .int .i64 (upTo p.n p.dcA k))) (T : Array Value) (Q : Exit → Act → World → Prop) (hT : T.size = 735) (t2 : T[2]?.getD undef = .bool p.keep) (t23 : T[23]?.getD undef = .int .i64 p.n) (t24 : T[24]?.getD undef = .int .i64 p.last) (t27 : T[27]?.getD undef = .pointer (some ⟨B + 2, 0, none⟩)) (t43 : T[43]?.getD undef = ev) (t49 : T[49]?.getD undef = .pointer (some ⟨EB, 0, none⟩)) (t51 : T[51]?.getD undef = .pointer (some ⟨PL, 0, none⟩))
    (hQ : ∀ T' w', Keeps 81 734 [52, 53, 54, 55, 56] T T' → T'[52]?.getD undef = .pointer (some ⟨s2, 0, none⟩) → Rn p EB s2 PL g1 g2 g3 g4 PR OU SE IN fav ev w w' → (tlOf Yba.f3 25).wp Yba.prog Q ⟨T', []⟩ w') : (tlOf Yba.f3 19).wp Yba.prog Q ⟨T, []⟩ w := by
  conv in (tlOf Yba.f3 19) => whnf
  have HQ := hidP hQ
  have HR := hidP hR
  have HD := hidP hD
  have HS2 := hidP hs2
  have HP := hidP hp
  have hn6 := hp.n6
  have hn1 := hp.n1
  have hl5 := hp.l5
  have mk1 := fun w => makeAprocs (p.n + 1) (by omega) w
  simp only [Int.natCast_add, Int.natCast_one] at mk1
  have wn1 : IntKind.i64.wrap ((p.n : Int) + 1) = (p.n : Int) + 1 := by rw [IntKind.wrap_i64]; omega
  have a23 : T[23]'(by omega) = _ := at_of _ t23
  clear hQ hR hD hs2 hp
  refine wp_seq_k ?_
  intro K hK
  have HK := hidP hK
  clear hK
  go_wp2_with fail
  refine HK.out _ _ ?_
  clear HK K
  refine wp_seq_k ?_
  intro K hK
  have HK := hidP hK
  clear hK
  go_wp2_with fail
  refine HK.out _ _ ?_
  clear HK K
  refine gen_both (fun T2 w2 => T2.size = 735 ∧ Keeps 81 734 [52, 53, 54, 55, 56] T T2 ∧ T2[52]?.getD undef = .pointer (some ⟨s2, 0, none⟩) ∧ T2[53]?.getD undef = .slice (some ⟨s2 + 1, 0, none⟩) (p.n + 1) (p.n + 1) ∧ Row w2 s2 29 1 (fun _ => .slice none 0 0) ∧ Row w2 (s2 + 1) 64 (p.n + 1) (fun _ => .pointer none) ∧ Only (fun _ => False) w w2 ∧ w2.heap.size = s2 + 2) ⟨by simp [hT], ?_, by simp [hT, HS2.out], by simp [hT, HS2.out], ?_, ?_, (Only.refl.alloc _).alloc _, by simp [HS2.out]⟩ ?_
  · repeat (refine Keeps.put ?_ _ _ (by first | exact .inr ⟨by decide, by decide⟩ | exact .inl (by decide)))
    exact Keeps.refl
  · rw [HS2.out]
    exact (Row.new w [.slice none 0 0] 29 (fun _ => .slice none 0 0) (fun k hk => by simp at hk; subst hk; rfl)).alloc _
  · have := Row.made (w.alloc (.cells #[.slice none 0 0] 29)) (.pointer none) 64 (p.n + 1)
    rw [show (w.alloc (.cells #[.slice none 0 0] 29)).heap.size = s2 + 1 by rw [HS2.out]; simp] at this
    exact this
  clear a23 mk1 wn1
  rintro T2 w2 ⟨hT2, hK2, s52, s53, hL2, hPS2, ho2, hz2⟩
  have a52 : T2[52]'(by omega) = _ := at_of _ s52
  have a53 : T2[53]'(by omega) = _ := at_of _ s53
  have H2 := hidP (And.intro hL2 (And.intro hPS2 (And.intro ho2 hz2)))
  have HK2 := hidP hK2
  clear hL2 hPS2 ho2 hz2 hK2
  refine wp_seq_k ?_
  intro K hK
  have HK := hidP hK
  clear hK
  go_upto_block 14 with fail
  have hK2' : Keeps 81 734 [52, 53, 54, 55, 56] T (T2.setIfInBounds 54 (.int .i64 1)) := HK2.out.put _ _ (.inl (by decide))
  have no : ∀ {S : Nat → Prop} {b : Nat}, ¬ (fun _ : Nat => False) b := fun h => h
  refine f3_14 p.n hn1 hn6 (s2 + 2) PL g1 PR OU SE (s2 + 1) s2 (B + 2) (upTo p.n p.crA) (upTo p.n p.dcA) _ w2 H2.out.2.2.2.symm (HR.out.pl.only H2.out.2.2.1 (fun h => h)) rfl rfl rfl rfl (HR.out.rC.only H2.out.2.2.1 (fun h => h)) (HD.out.only H2.out.2.2.1 (fun h => h)) ⟨?_, ?_, ?_, ?_, ?_, ?_, Only.refl⟩ _ _ (by simp [hT2]) (hK2'.get t23 (by decide) (by decide)) (hK2'.get t27 (by decide) (by decide)) (hK2'.get t51 (by decide) (by decide)) (by simp [hT2, a52]) (by simp [hT2, a53]) (by simp [hT2]) ?_
  · refine (HR.out.rPR.only H2.out.2.2.1 (fun h => h)).ext fun x hx => ?_
    unfold procJ
    rw [if_neg (by omega)]
  · refine (HR.out.rOU.only H2.out.2.2.1 (fun h => h)).ext fun x hx => ?_
    unfold outJ
    rw [if_neg (by omega)]
  · refine (HR.out.rSE.only H2.out.2.2.1 (fun h => h)).ext fun x hx => ?_
    unfold sentJ
    rw [if_neg (by omega)]
  · refine H2.out.2.1.ext fun x hx => ?_
    unfold psJ
    rw [if_neg (by omega)]
  · intro x h1 h2
    omega
  · exact H2.out.2.2.2
  intro T3 w3 hK3 hM
  refine HK.out _ _ ?_
  clear HK K
  have hT3 : T3.size = 735 := hK3.1.trans (by simp [hT2])
  have hK3' := hK2'.trans (hK3.mono (fun i hi => .inl (by simp at hi; simp [hi])) (by decide) (by decide))
  have u52 : T3[52]?.getD undef = .pointer (some ⟨s2, 0, none⟩) := hK3.get (by simp [hT2, a52]) (by decide) (by decide)
  have u53 : T3[53]?.getD undef = .slice (some ⟨s2 + 1, 0, none⟩) (p.n + 1) (p.n + 1) := hK3.get (by simp [hT2, a53]) (by decide) (by decide)
  have hPL2 := HR.out.pl.only H2.out.2.2.1 (fun h => h)
  have hne1 : ¬ (PL = PR ∨ PL = OU ∨ PL = SE ∨ PL = s2 + 1) := by
    have h1 := HR.out.hi
    have h2 := HR.out.sz
    have h3 := HS2.out
    rintro (e | e | e | e)
    · exact row_ne HR.out.pl HR.out.rPR (by decide) e
    · exact row_ne HR.out.pl HR.out.rOU (by decide) e
    · exact row_ne HR.out.pl HR.out.rSE (by decide) e
    · omega
  have hPL3 := hPL2.only hM.m7 hne1
  have hneL : ¬ (s2 = PR ∨ s2 = OU ∨ s2 = SE ∨ s2 = s2 + 1) := by
    have h1 := HR.out.hi
    have h2 := HR.out.sz
    have h3 := HS2.out
    omega
  have hL3 := H2.out.1.only hM.m7 hneL
  have cP18 : w3.cell? ⟨PL, 18, none⟩ = some .nilFunc := hPL3.cell 18 (by omega)
  have fP18 : w3.frozen? ⟨PL, 18, none⟩ = false := hPL3.frozen 18
  have hPLlt := hPL3.lt
  have b51 := hK3'.at' hT3 51 (by decide) t51 (by decide) (by decide)
  have b52 : T3[52]'(by omega) = _ := at_of _ u52
  have b53 : T3[53]'(by omega) = _ := at_of _ u53
  have ho3 : Only (fun b => b = PL ∨ b = PR ∨ b = OU ∨ b = SE) w w3 := (H2.out.2.2.1.mono (fun b _ e => e.elim)).trans' hM.m7 (fun b hb e => by
    rcases e with e | e | e | e
    · exact .inr (.inl e)
    · exact .inr (.inr (.inl e))
    · exact .inr (.inr (.inr e))
    · rw [e, ← HS2.out] at hb; omega)
  have H3 := hidP (And.intro hM (And.intro hPL3 (And.intro hL3 ho3)))
  have HK3 := hidP hK3'
  clear hM hPL3 hL3 ho3 hK3' hK3 hK2' no hPL2 hne1 hneL H2 HK2 a52 a53 s52 s53 u52 u53
  refine wp_seq_k ?_
  intro K hK
  have HK := hidP hK
  clear hK
  go_wp2_with fail
  refine HK.out _ _ ?_
  clear HK K
  refine wp_seq_k ?_
  intro K hK
  have HK := hidP hK
  clear hK
  go_wp2_with fail
  refine HK.out _ _ ?_
  clear HK K
  refine gen_both (fun T2 w2 => T2.size = 735 ∧ Keeps 81 734 [52, 53, 54, 55, 56] T T2 ∧ T2[52]?.getD undef = .pointer (some ⟨s2, 0, none⟩) ∧ T2[53]?.getD undef = .slice (some ⟨s2 + 1, 0, none⟩) (p.n + 1) (p.n + 1) ∧ T2[55]?.getD undef = .pointer (some ⟨s2 + 2 + p.n, 0, none⟩) ∧ Row w2 PL 59 19 (fun k => if k = 18 then meV s2 else if k = 8 then fav else plN p.n p.last g1 g2 g3 g4 PR OU SE IN k) ∧ Row w2 PR 69 (p.n + 1) (procJ (s2 + 2) (p.n + 1)) ∧ Row w2 OU 71 (p.n * 5) (outJ (upTo p.n p.crA) p.n) ∧ Row w2 SE 20 (p.n + 1) (sentJ (p.n + 1)) ∧ (∀ x, 1 ≤ x → x ≤ p.n → Row w2 (s2 + 2 + (x - 1)) 67 4 (aprocM x (upTo p.n p.dcA x) 0 s2)) ∧ Row w2 s2 29 1 (fun _ => .slice none 0 0) ∧ Row w2 (s2 + 1) 64 (p.n + 1) (psJ (s2 + 2) (p.n + 1)) ∧ Row w2 (s2 + 2 + p.n) 3 1 (fun _ => .int .i64 0) ∧ Only (fun b => b = PL ∨ b = PR ∨ b = OU ∨ b = SE) w w2 ∧ w2.heap.size = s2 + p.n + 3) ⟨by simp [hT3], ?_, by simp [hT3, b52], by simp [hT3, b53], ?_, ?_, ?_, ?_, ?_, ?_, ?_, ?_, ?_, ?_, ?_⟩ ?_
  · repeat (refine Keeps.put ?_ _ _ (by first | exact .inr ⟨by decide, by decide⟩ | exact .inl (by decide)))
    exact HK3.out
  · have := H3.out.1.m6
    simp [hT3, this]
  · exact (H3.out.2.1.set 18 _).alloc _
  · have h := H3.out.1.m1
    exact (h.far _ _ (row_ne h H3.out.2.1 (by decide))).alloc _
  · have h := H3.out.1.m2
    exact (h.far _ _ (row_ne h H3.out.2.1 (by decide))).alloc _
  · have h := H3.out.1.m3
    exact (h.far _ _ (row_ne h H3.out.2.1 (by decide))).alloc _
  · intro x h1 h2
    have h := H3.out.1.m5 x h1 (by omega)
    exact (h.far _ _ (row_ne h H3.out.2.1 (by decide))).alloc _
  · have h := H3.out.2.2.1
    exact (h.far _ _ (row_ne h H3.out.2.1 (by decide))).alloc _
  · have h := H3.out.1.m4
    exact (h.far _ _ (row_ne h H3.out.2.1 (by decide))).alloc _
  · have h := Row.new (w3.setCell ⟨PL, 18, none⟩ (.func (.func 12) #[] #[.pointer (some ⟨s2, 0, none⟩)])) [.int .i64 0] 3 (fun _ => .int .i64 0) (fun k hk => by simp at hk; subst hk; rfl)
    have e : (w3.setCell ⟨PL, 18, none⟩ (.func (.func 12) #[] #[.pointer (some ⟨s2, 0, none⟩)])).heap.size = s2 + 2 + p.n := by
      have := H3.out.1.m6
      simp [World.setCell, this]
    rw [e] at h
    exact h
  · exact (H3.out.2.2.2.setCell (fun _ => .inl rfl) _).alloc _
  · have := H3.out.1.m6
    simp [World.setCell, this]
    omega
  clear b51 b52 b53 cP18 fP18 hPLlt H3 HK3
  rintro T2' w4 ⟨hT4, hK4, s52, s53, s55, r1, r2, r3, r4, r5, r6, r7, r8, ho4, hz4⟩
  refine wp_seq_k ?_
  intro K hK
  refine st85 p HP.out (s2 + 2) PL (s2 + 1) s2 (s2 + 2 + p.n) EB (s2 + p.n + 3) ev hev _ w4 hz4.symm r1 rfl rfl rfl rfl r7 T2' _ hT4 (hK4.get t2 (by decide) (by decide)) (hK4.get t23 (by decide) (by decide)) (hK4.get t24 (by decide) (by decide)) (hK4.get t43 (by decide) (by decide)) (hK4.get t49 (by decide) (by decide)) (hK4.get t51 (by decide) (by decide)) s52 s53 s55 ?_ ?_
  · intro hk T5 hK5
    refine hK _ _ (HQ.out T5 w4 (hK4.trans (hK5.mono (fun i hi => .inl (by simp at hi; simp [hi])) (by decide) (by decide))) (hK5.get s52 (by decide) (by decide)) ⟨r1.ext fun x hx => ?_, r2, r3, r4, r5, r6, r7, r8, fun h => absurd h (by simp [hk]), fun h => absurd h (by simp [hk]), ?_, ho4⟩)
    · unfold plE yiV coV evV kpV
      simp only [hk, Bool.false_eq_true, if_false]
      rcases (by omega : x = 0 ∨ x = 1 ∨ x = 2 ∨ x = 3 ∨ x = 4 ∨ x = 5 ∨ x = 6 ∨ x = 7 ∨ x = 8 ∨ x = 9 ∨ x = 10 ∨ x = 11 ∨ x = 12 ∨ x = 13 ∨ x = 14 ∨ x = 15 ∨ x = 16 ∨ x = 17 ∨ x = 18) with rfl | rfl | rfl | rfl | rfl | rfl | rfl | rfl | rfl | rfl | rfl | rfl | rfl | rfl | rfl | rfl | rfl | rfl | rfl <;> rfl
    · rw [hz4, hk]
      rfl
  · intro hk T5 w5 hK5 q1 q2 q3 ho5 hz5
    have e : s2 + p.n + 3 + 1 = s2 + p.n + 4 := by omega
    rw [e] at q1 q3
    have hne : ∀ {b t k m}, Row w4 b t k m → t ≠ 59 → ¬ b = PL := fun h ht => row_ne h r1 ht
    refine hK _ _ (HQ.out T5 w5 (hK4.trans (hK5.mono (fun i hi => .inl (by simp at hi; simp [hi])) (by decide) (by decide))) (hK5.get s52 (by decide) (by decide)) ⟨q1.ext fun x hx => ?_, r2.only ho5 (hne r2 (by decide)), r3.only ho5 (hne r3 (by decide)), r4.only ho5 (hne r4 (by decide)), fun x h1 h2 => (r5 x h1 h2).only ho5 (hne (r5 x h1 h2) (by decide)), r6.only ho5 (hne r6 (by decide)), r7.only ho5 (hne r7 (by decide)), r8.only ho5 (hne r8 (by decide)), fun _ => q2, fun _ => q3, ?_, ho4.trans' ho5 (fun b _ e => .inl e)⟩)
    · unfold plE yiV coV evV kpV
      simp only [hk, if_true]
    · rw [hz5, hk]
      rfl
end Go.Proofs.Ybulkcawy
