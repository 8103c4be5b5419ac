/-
  LawS3859APlay's loops over the events.
-/
import Derived.Test.YbulkcawyF34
namespace Go.Proofs.Ybulkcawy
open Go.RowKit
set_option linter.unusedSimpArgs false
set_option linter.unusedVariables false
set_option maxRecDepth 100000
set_option maxHeartbeats 1000000

def evsV (es : List Ev) : List Value := es.flatMap fun e => [.int .i64 e.p, .int .i64 e.t, labelV e.l]
theorem evsV_len (es : List Ev) : (evsV es).length = es.length * 3 := by
  induction es with
  | nil => rfl
  | cons e es ih => simp [evsV] at ih ⊢; omega
theorem info40 : (Yba.prog.info? 40).map (fun i => (i.zero, i.size, i.bytes)) = some (some (.agg #[.int .i64 0, .int .i64 0, .string ⟨#[]⟩]), 3, 32) := by kernel_rfl
def cuts (q m k : Nat) : List Ev := (List.range k).map (fun j => ⟨q, m, j⟩)
theorem cuts_succ (q m k : Nat) : cuts q m (k + 1) = cuts q m k ++ [⟨q, m, k⟩] := by simp [cuts, List.range_succ]

theorem f3_12 (B q m cc : Nat) (hcc : cc ≤ 2) (hq : q ≤ 100) (hm : m ≤ 100) (es : List Ev) (hes : es.length ≤ 1000) (v : Value) (w : World) (hBw : B ≤ w.heap.size) (hv : w.ownsRow B 40 3 v es.length (evsV es)) (T : Array Value) (Q : Exit → Act → World → Prop) (hT0 : T.size = 735) (t44 : T[44]?.getD undef = .int .i64 m) (t45 : T[45]?.getD undef = .int .i64 q) (t47 : T[47]?.getD undef = .int .i64 cc) (t43 : T[43]?.getD undef = v) (t48 : T[48]?.getD undef = .int .i64 0)
    (hQ : ∀ T' w' v', Keeps 81 734 [43, 48] T T' → T'[43]?.getD undef = v' → w'.ownsRow B 40 3 v' (es ++ cuts q m cc).length (evsV (es ++ cuts q m cc)) → OnlyT B [40] w w' → Q .normal ⟨T', []⟩ w') : (blkOf Yba.f3 12).wp Yba.prog Q ⟨T, []⟩ w := by
  conv in (blkOf Yba.f3 12) => whnf
  refine wp_block ?_
  have HQ := hidP hQ
  have HV0 := hidP hv
  clear hQ hv
  obtain ⟨ie, hie, hze0, hze1, hze2⟩ := info_parts info40
  obtain ⟨I, hI⟩ : ∃ I : Nat → Array Value → World → Prop, I = (fun k T2 wr => ∃ j, j + k = cc ∧ Keeps 81 734 [43, 48] T T2 ∧ T2[48]?.getD undef = .int .i64 j ∧ ∃ ev, T2[43]?.getD undef = ev ∧ wr.ownsRow B 40 3 ev (es ++ cuts q m j).length (evsV (es ++ cuts q m j)) ∧ OnlyT B [40] w wr) := ⟨_, rfl⟩
  have HI := hidP hI
  clear hI
  refine wp_loop_n I ?_ cc _ _ ?_
  · intro k T2 wr hIk
    rw [HI.out] at hIk
    obtain ⟨j, hjk, hK, u48, ev, u43, hown, ho⟩ := hIk
    have hT : T2.size = 735 := hK.1.trans hT0
    have a44 := hK.at' hT 44 (by decide) t44 (by decide) (by decide)
    have a45 := hK.at' hT 45 (by decide) t45 (by decide) (by decide)
    have a47 := hK.at' hT 47 (by decide) t47 (by decide) (by decide)
    have a43 : T2[43]'(by omega) = _ := at_of _ u43
    have a48 : T2[48]'(by omega) = _ := at_of _ u48
    have HK := hidP hK
    clear hK u43 u48
    have HOWN := hidP hown
    have HO := hidP ho
    have hsz := ho.size
    clear hown ho
    go_upto_if 277 with fail
    refine wp_cond_at (decide (j < cc)) (by simp [Act.eval, hT]) (fun h => ?_) (fun h => ?_)
    · have hjc : j < cc := of_decide_eq_true h
      clear h
      refine gen_frame (fun T2 => T2.size = 735 ∧ Keeps 81 734 [43, 48] T T2 ∧ T2[43]?.getD undef = ev ∧ T2[48]?.getD undef = .int .i64 j) ⟨by simp [hT], ?_, by simp [hT, a44, a45, a47, a43, a48], by simp [hT, a44, a45, a47, a43, a48]⟩ ?_
      · repeat (refine Keeps.put ?_ _ _ (by first | exact .inr ⟨by decide, by decide⟩ | exact .inl (by decide)))
        exact HK.out
      clear a44 a45 a47 a43 a48 HK hT
      clear T2
      rintro T2 ⟨hT, hK, u43, u48⟩
      have a44 := hK.at' hT 44 (by decide) t44 (by decide) (by decide)
      have a45 := hK.at' hT 45 (by decide) t45 (by decide) (by decide)
      have a47 := hK.at' hT 47 (by decide) t47 (by decide) (by decide)
      have a43 : T2[43]'(by omega) = _ := at_of _ u43
      have a48 : T2[48]'(by omega) = _ := at_of _ u48
      have HK := hidP hK
      clear hK u43 u48
      have hlen : (es ++ cuts q m j).length ≤ 1002 := by simp [cuts]; omega
      have hj2 : j ≤ 2 := by omega
      obtain ⟨N, hN⟩ : ∃ N, N = (es ++ cuts q m j).length := ⟨_, rfl⟩
      obtain ⟨XS, hXS⟩ : ∃ XS, XS = evsV (es ++ cuts q m j) := ⟨_, rfl⟩
      have hown := HOWN.out
      rw [← hN, ← hXS] at hown
      rw [← hN] at hlen
      have HN := hidP hN
      have HXS := hidP hXS
      have HOW := hidP hown
      clear hN hXS hown
      obtain ⟨lb, hlb⟩ : ∃ lb, lb = labelB j := ⟨_, rfl⟩
      have hlab : ∀ w, Calls Yba.prog 9 #[.int .i64 j] w fun e w' => e = .returned (.string lb) ∧ w' = w := fun w => by rw [hlb]; exact label0 j hj2 w
      have HLB := hidP hlb
      have HLAB := hidP hlab
      clear hlb hlab
      go_wp2_with (first | (go_at_call 9; refine (HLAB.out wr).mono ?_; rintro e w2 ⟨rfl, hw2⟩; have hw3 := hw2.symm; clear hw2; subst hw3) | (at_builtin; refine wpList_append_lies _ rfl _ _ 37 rfl B 40 ie (.agg #[.int .i64 0, .int .i64 0, .string ⟨#[]⟩]) 3 32 (by kernel_rfl) hie hze0 hze1 hze2 rfl (by decide) ev N XS (by simp [Act.eval, hT]) ?c1 ⟨wr.heap.size, 0, none⟩ 1 1 [.int .i64 q, .int .i64 m, .string lb] (by simp [Act.eval, hT]) rfl ?c2 (by simp [Value.oneCell']) (by decide) (by show _ ≤ 9223372036854775807; omega) (by omega) ?c3 (wr.heap.size + 1) ?c4 ?_))
      case c1 => exact HOW.out.alloc _
      first | (case c2 => exact World.news_of_block (heap_alloc_new _ (.cells #[.int .i64 q, .int .i64 m, .string lb] 40))) | skip
      case c3 => first | omega | (simp; omega)
      first | (case c4 => simp) | skip
      intro gg cp w4 hown1 hgrow hat hlt
      have hog := grown_own HOW.out (Only.refl.alloc _) hown1 hgrow
      have HOW1 := hidP hown1
      have HO4 := hidP (HO.out.trans (OnlyT.own HOW.out (by simp) hog))
      clear hown1 hgrow hat hlt hog
      go_wp2_with fail
      first | refine ⟨trivial, k - 1, by omega, ?_⟩ | refine ⟨k - 1, by omega, ?_⟩
      rw [HI.out]
      refine ⟨j + 1, by omega, ?_, by simp [hT], .slice (some ⟨gg, 0, none⟩) (N + 1) cp, by simp [hT], ?_, HO4.out⟩
      · repeat (refine Keeps.put ?_ _ _ (by first | exact .inr ⟨by decide, by decide⟩ | exact .inl (by decide)))
        exact HK.out
      · have h1 := HOW1.out
        rw [HN.out, HXS.out, HLB.out] at h1
        rw [HN.out]
        have e : es ++ cuts q m (j + 1) = es ++ cuts q m j ++ [⟨q, m, j⟩] := by rw [cuts_succ, List.append_assoc]
        have e3 : (es ++ cuts q m j ++ [(⟨q, m, j⟩ : Ev)]).length = (es ++ cuts q m j).length + 1 := by rw [List.length_append]; rfl
        rw [e, e3]
        have e2 : evsV (es ++ cuts q m j ++ [⟨q, m, j⟩]) = evsV (es ++ cuts q m j) ++ [.int .i64 q, .int .i64 m, labelV j] := by simp [evsV]
        rw [e2]
        exact h1
    · have hjc : j = cc := by have := of_decide_eq_false h; omega
      clear h
      go_wp2_with fail
      have hown := HOWN.out
      rw [hjc] at hown
      refine HQ.out _ _ ev ?_ (by simp [hT, a43]) hown HO.out
      repeat (refine Keeps.put ?_ _ _ (by first | exact .inr ⟨by decide, by decide⟩ | exact .inl (by decide)))
      exact HK.out
  · rw [HI.out]
    refine ⟨0, by omega, Keeps.refl, t48, v, t43, ?_, OnlyT.refl⟩
    simpa [cuts] using HV0.out
theorem compl_up (p : Inp) (q m : Nat) (h1 : 1 ≤ q) (h2 : q ≤ p.n) : compl (upTo p.n p.crA) q m = compl p.crA q m := by
  unfold compl upTo
  rw [if_pos ⟨h1, h2⟩]
def rowQ (p : Inp) (m k : Nat) : List Ev := (List.range k).flatMap fun j => p.evE m (j + 1)
theorem rowQ_succ (p : Inp) (m k : Nat) : rowQ p m (k + 1) = rowQ p m k ++ p.evE m (k + 1) := by simp [rowQ, List.range_succ, List.flatMap_append]
def allE (p : Inp) (k : Nat) : List Ev := (List.range k).flatMap fun m => rowQ p m p.n
theorem allE_succ (p : Inp) (k : Nat) : allE p (k + 1) = allE p k ++ rowQ p k p.n := by simp [allE, List.range_succ, List.flatMap_append]
theorem evC_le (p : Inp) (m q : Nat) : p.evC m q ≤ 2 := by
  unfold Inp.evC
  split
  · have := Nat.mod_lt (p.fe (m * p.n + q - 1)) (show 0 < 3 by omega)
    omega
  · omega
theorem evE_len (p : Inp) (m q : Nat) : (p.evE m q).length ≤ 2 := by
  have := evC_le p m q
  unfold Inp.evE
  split <;> simp <;> omega
theorem rowQ_len (p : Inp) (m k : Nat) : (rowQ p m k).length ≤ 2 * k := by
  induction k with
  | zero => simp [rowQ]
  | succ k ih => rw [rowQ_succ, List.length_append]; have := evE_len p m (k + 1); omega
theorem allE_len (p : Inp) (hp : p.ok) (k : Nat) : (allE p k).length ≤ 12 * k := by
  induction k with
  | zero => simp [allE]
  | succ k ih => rw [allE_succ, List.length_append]; have := rowQ_len p k p.n; have := hp.n6; omega

theorem f3_10 (p : Inp) (hp : p.ok) (B m : Nat) (hm : m ≤ p.last) (v10 v : Value) (w : World) (es : List Ev) (hes : es.length ≤ 900) (hv : w.ownsRow B 40 3 v es.length (evsV es)) (hC : Row w B 23 7 (fun k => .int .i64 (upTo p.n p.crA k))) (hb : BytesAt w B v10 p.le p.fe) (T : Array Value) (Q : Exit → Act → World → Prop) (hT0 : T.size = 735) (t10 : T[10]?.getD undef = v10) (t23 : T[23]?.getD undef = .int .i64 p.n) (t35 : T[35]?.getD undef = .func (.func 8) #[] #[.pointer (some ⟨B, 0, none⟩)]) (t44 : T[44]?.getD undef = .int .i64 m) (t43 : T[43]?.getD undef = v) (t45 : T[45]?.getD undef = .int .i64 1)
    (hQ : ∀ T' w' v', Keeps 81 734 [43, 45, 46, 47, 48] T T' → T'[43]?.getD undef = v' → w'.ownsRow B 40 3 v' (es ++ rowQ p m p.n).length (evsV (es ++ rowQ p m p.n)) → OnlyT B [40] w w' → Q .normal ⟨T', []⟩ w') : (blkOf Yba.f3 10).wp Yba.prog Q ⟨T, []⟩ w := by
  conv in (blkOf Yba.f3 10) => whnf
  refine wp_block ?_
  have HQ := hidP hQ
  have HP := hidP hp
  have HV0 := hidP hv
  have HC := hidP hC
  have HB := hidP hb
  have hn6 := hp.n6
  have hn1 := hp.n1
  have hl5 := hp.l5
  clear hQ hp hv hC hb
  obtain ⟨I, hI⟩ : ∃ I : Nat → Array Value → World → Prop, I = (fun k T2 wr => ∃ q, 1 ≤ q ∧ q + k = p.n + 1 ∧ Keeps 81 734 [43, 45, 46, 47, 48] T T2 ∧ T2[45]?.getD undef = .int .i64 q ∧ ∃ ev, T2[43]?.getD undef = ev ∧ wr.ownsRow B 40 3 ev (es ++ rowQ p m (q - 1)).length (evsV (es ++ rowQ p m (q - 1))) ∧ OnlyT B [40] w wr) := ⟨_, rfl⟩
  have HI := hidP hI
  clear hI
  refine wp_loop_n I ?_ p.n _ _ ?_
  · intro k T2 wr hIk
    rw [HI.out] at hIk
    obtain ⟨q, hq1, hqk, hK, u45, ev, u43, hown, ho⟩ := hIk
    have hT : T2.size = 735 := hK.1.trans hT0
    have a10 := hK.at' hT 10 (by decide) t10 (by decide) (by decide)
    have a23 := hK.at' hT 23 (by decide) t23 (by decide) (by decide)
    have a35 := hK.at' hT 35 (by decide) t35 (by decide) (by decide)
    have a44 := hK.at' hT 44 (by decide) t44 (by decide) (by decide)
    have a43 : T2[43]'(by omega) = _ := at_of _ u43
    have a45 : T2[45]'(by omega) = _ := at_of _ u45
    have HK := hidP hK
    clear hK u43 u45
    have HOWN := hidP hown
    have HO := hidP ho
    have HBR := hidP (HB.out.onlyT ho)
    have HCR := hidP (HC.out.onlyT ho (by decide))
    clear hown ho
    go_upto_if 251 with fail
    refine wp_cond_at (decide (q ≤ p.n)) (by simp [Act.eval, hT]) (fun h => ?_) (fun h => ?_)
    · have hqn : q ≤ p.n := of_decide_eq_true h
      clear h
      refine gen_frame (fun T2 => T2.size = 735 ∧ Keeps 81 734 [43, 45, 46, 47, 48] T T2 ∧ T2[43]?.getD undef = ev ∧ T2[45]?.getD undef = .int .i64 q) ⟨by simp [hT], ?_, by simp [hT, a10, a23, a35, a44, a43, a45], by simp [hT, a10, a23, a35, a44, a43, a45]⟩ ?_
      · repeat (refine Keeps.put ?_ _ _ (by first | exact .inr ⟨by decide, by decide⟩ | exact .inl (by decide)))
        exact HK.out
      clear a10 a23 a35 a44 a43 a45 HK hT
      clear T2
      rintro T2 ⟨hT, hK, u43, u45⟩
      have a10 := hK.at' hT 10 (by decide) t10 (by decide) (by decide)
      have a23 := hK.at' hT 23 (by decide) t23 (by decide) (by decide)
      have a35 := hK.at' hT 35 (by decide) t35 (by decide) (by decide)
      have a44 := hK.at' hT 44 (by decide) t44 (by decide) (by decide)
      have a43 : T2[43]'(by omega) = _ := at_of _ u43
      have a45 : T2[45]'(by omega) = _ := at_of _ u45
      have HK := hidP hK
      clear hK u43 u45
      obtain ⟨mn, hmn⟩ : ∃ mn, mn = m * p.n := ⟨_, rfl⟩
      have hmnb : mn ≤ 5 * 6 := by rw [hmn]; exact Nat.mul_le_mul (by omega) (by omega)
      have hmnI : (m : Int) * (p.n : Int) = (mn : Int) := by rw [hmn]; push_cast; rfl
      obtain ⟨x, hx⟩ : ∃ x, x = mn + q - 1 := ⟨_, rfl⟩
      have hxI : (mn : Int) + (q : Int) - 1 = (x : Int) := by omega
      have hx0 : (0 : Int) ≤ (x : Int) := by omega
      have hxm : x = m * p.n + q - 1 := by rw [hx, hmn]
      have HX := hidP hxm
      clear hmn hx hxm
      obtain ⟨mv, cvv, e10⟩ := HBR.out.form
      rw [e10] at a10
      go_upto_if 263 with fail
      rename_i K263 hK263
      have HK263 := hidP hK263
      clear hK263
      suffices merge : ∀ T2, T2.size = 735 ∧ Keeps 81 734 [43, 45, 46, 47, 48] T T2 ∧ T2[43]?.getD undef = ev ∧ T2[45]?.getD undef = .int .i64 q ∧ T2[47]?.getD undef = .int .i64 (p.evC m q) → K263 ⟨T2, []⟩ wr by
        have MERGE := hidP merge
        clear merge
        by_cases hlt : x < p.le
        · obtain ⟨b, off, cap, e10', cB⟩ := HBR.out.at hlt
          have hE : Value.slice mv p.le cvv = .slice (some ⟨b, off, none⟩) p.le cap := e10.symm.trans e10'
          rw [hE] at a10
          have hjl : (x : Int) < (p.le : Int) := by omega
          have hf := HP.out.be x
          have hmod : ((p.fe x : Nat) : Int) % 3 = ((p.evC m q : Nat) : Int) := by
            unfold Inp.evC
            rw [← HX.out, if_pos hlt]
            push_cast
            rfl
          refine wp_cond_at true (by simp [Act.eval, hT, hlt]) (fun _ => ?_) (fun h => by cases h)
          refine gen_frame (fun T2 => T2.size = 735 ∧ Keeps 81 734 [43, 45, 46, 47, 48] T T2 ∧ T2[43]?.getD undef = ev ∧ T2[45]?.getD undef = .int .i64 q ∧ T2[46]?.getD undef = .int .i64 x) ⟨by simp [hT], ?_, by simp [hT, a43], by simp [hT, a45], by simp [hT]⟩ ?_
          · repeat (refine Keeps.put ?_ _ _ (by first | exact .inr ⟨by decide, by decide⟩ | exact .inl (by decide)))
            exact HK.out
          clear a10 a23 a35 a44 a43 a45 HK hT
          clear T2
          rintro T2 ⟨hT, hK, u43, u45, u46⟩
          have a10 := hK.at' hT 10 (by decide) t10 (by decide) (by decide)
          have a23 := hK.at' hT 23 (by decide) t23 (by decide) (by decide)
          have a35 := hK.at' hT 35 (by decide) t35 (by decide) (by decide)
          have a44 := hK.at' hT 44 (by decide) t44 (by decide) (by decide)
          have a43 : T2[43]'(by omega) = _ := at_of _ u43
          have a45 : T2[45]'(by omega) = _ := at_of _ u45
          have a46 : T2[46]'(by omega) = _ := at_of _ u46
          have HK := hidP hK
          clear hK u43 u45 u46
          rw [e10'] at a10
          go_wp2_with fail
          refine MERGE.out _ ⟨by simp [hT], ?_, by simp [hT, a43], by simp [hT, a45], by simp [hT]⟩
          repeat (refine Keeps.put ?_ _ _ (by first | exact .inr ⟨by decide, by decide⟩ | exact .inl (by decide)))
          exact HK.out
        · have hcz : p.evC m q = 0 := by unfold Inp.evC; rw [← HX.out, if_neg hlt]
          refine wp_cond_at false (by simp [Act.eval, hT, hlt]) (fun h => by cases h) (fun _ => ?_)
          go_wp2_with fail
          refine MERGE.out _ ⟨by simp [hT], ?_, by simp [hT, a43], by simp [hT, a45], by simp [hT, hcz]⟩
          repeat (refine Keeps.put ?_ _ _ (by first | exact .inr ⟨by decide, by decide⟩ | exact .inl (by decide)))
          exact HK.out
      clear a10 a23 a35 a44 a43 a45 HK hT
      clear T2
      rintro T2 ⟨hT, hK, u43, u45, u47⟩
      have a10 := hK.at' hT 10 (by decide) t10 (by decide) (by decide)
      have a23 := hK.at' hT 23 (by decide) t23 (by decide) (by decide)
      have a35 := hK.at' hT 35 (by decide) t35 (by decide) (by decide)
      have a44 := hK.at' hT 44 (by decide) t44 (by decide) (by decide)
      have a43 : T2[43]'(by omega) = _ := at_of _ u43
      have a45 : T2[45]'(by omega) = _ := at_of _ u45
      have a47 : T2[47]'(by omega) = _ := at_of _ u47
      have HK := hidP hK
      clear hK u43 u45 u47
      refine HK263.out _ _ ?_
      have hown8 := fun r => ownCompletes B 23 q r (upTo p.n p.crA) wr HCR.out (by omega)
      obtain ⟨D, hD⟩ : ∃ D, D = compl (upTo p.n p.crA) q m := ⟨_, rfl⟩
      have h8 := hown8 m
      rw [← hD] at h8
      have H8 := hidP h8
      have HD := hidP hD
      clear hown8 h8 hD
      go_upto_if 274 with (go_at_call 8; refine H8.out.mono ?_; rintro e w2 ⟨rfl, hw2⟩; have hw3 := hw2.symm; clear hw2; subst hw3)
      rename_i K274 hK274
      have HK274 := hidP hK274
      clear hK274
      obtain ⟨cc, hcc⟩ : ∃ cc, cc = if D then p.evC m q else 0 := ⟨_, rfl⟩
      suffices merge : ∀ T2, T2.size = 735 ∧ Keeps 81 734 [43, 45, 46, 47, 48] T T2 ∧ T2[43]?.getD undef = ev ∧ T2[45]?.getD undef = .int .i64 q ∧ T2[47]?.getD undef = .int .i64 cc → K274 ⟨T2, []⟩ wr by
        have MERGE := hidP merge
        clear merge
        refine wp_cond_at (!D) (by simp [Act.eval, hT]) (fun h => ?_) (fun h => ?_)
        · have hd : D = false := by simpa using h
          rw [hd] at hcc
          go_wp2_with fail
          refine MERGE.out _ ⟨by simp [hT], ?_, by simp [hT, a43], by simp [hT, a45], by simp [hT, hcc]⟩
          repeat (refine Keeps.put ?_ _ _ (by first | exact .inr ⟨by decide, by decide⟩ | exact .inl (by decide)))
          exact HK.out
        · have hd : D = true := by simpa using h
          rw [hd] at hcc
          go_wp2_with fail
          refine MERGE.out _ ⟨by simp [hT], ?_, by simp [hT, a43], by simp [hT, a45], by simp [hT, a47, hcc]⟩
          repeat (refine Keeps.put ?_ _ _ (by first | exact .inr ⟨by decide, by decide⟩ | exact .inl (by decide)))
          exact HK.out
      clear a10 a23 a35 a44 a43 a45 a47 HK hT
      clear T2
      rintro T2 ⟨hT, hK, u43, u45, u47⟩
      have a10 := hK.at' hT 10 (by decide) t10 (by decide) (by decide)
      have a23 := hK.at' hT 23 (by decide) t23 (by decide) (by decide)
      have a35 := hK.at' hT 35 (by decide) t35 (by decide) (by decide)
      have a44 := hK.at' hT 44 (by decide) t44 (by decide) (by decide)
      have a43 : T2[43]'(by omega) = _ := at_of _ u43
      have a45 : T2[45]'(by omega) = _ := at_of _ u45
      have a47 : T2[47]'(by omega) = _ := at_of _ u47
      have HK := hidP hK
      clear hK u43 u45 u47
      refine HK274.out _ _ ?_
      have hcb : cc ≤ 2 := by
        rw [hcc]
        have := evC_le p m q
        split <;> omega
      have hrl := rowQ_len p m (q - 1)
      have HCC := hidP hcc
      clear hcc
      go_upto_block 12 with fail
      refine f3_12 B q m cc hcb (by omega) (by omega) (es ++ rowQ p m (q - 1)) (by rw [List.length_append]; omega) ev wr HBR.out.2.1 HOWN.out _ _ (by simp [hT]) (by simp [hT, a44]) (by simp [hT, a45]) (by simp [hT, a47]) (by simp [hT, a43]) (by simp [hT]) ?_
      intro T3 w1 v1 hK3 e43 hown1 ho1
      have hks : ∀ x3, Keeps 81 734 [43, 45, 46, 47, 48] T (T2.setIfInBounds 48 x3) := fun x3 => by
        repeat (refine Keeps.put ?_ _ _ (by first | exact .inr ⟨by decide, by decide⟩ | exact .inl (by decide)))
        exact HK.out
      have hK4 : Keeps 81 734 [43, 45, 46, 47, 48] T T3 := Keeps.trans (hks _) (hK3.mono (fun i hi => by simp at hi; rcases hi with rfl | rfl <;> exact .inl (by decide)) (by decide) (by decide))
      have hT3 : T3.size = 735 := hK4.1.trans hT0
      have b43 : T3[43]'(by omega) = v1 := at_of _ e43
      have b45 : T3[45]'(by omega) = .int .i64 q := at_of _ (hK3.get (by simp [hT, a45]) (by decide) (by decide))
      have HOW1 := hidP hown1
      have HO1 := hidP (HO.out.trans ho1)
      have HK4 := hidP hK4
      clear hK3 hK4 hks hown1 ho1 e43 a10 a23 a35 a44 a43 a45 a47 HK
      go_wp2_with fail
      first | refine ⟨trivial, k - 1, by omega, ?_⟩ | refine ⟨k - 1, by omega, ?_⟩
      rw [HI.out]
      refine ⟨q + 1, by omega, by omega, ?_, by simp [hT3], v1, by simp [hT3, b43], ?_, HO1.out⟩
      · repeat (refine Keeps.put ?_ _ _ (by first | exact .inr ⟨by decide, by decide⟩ | exact .inl (by decide)))
        exact HK4.out
      · have e : es ++ rowQ p m (q + 1 - 1) = es ++ rowQ p m (q - 1) ++ cuts q m cc := by
          rw [show q + 1 - 1 = q - 1 + 1 by omega, rowQ_succ, show q - 1 + 1 = q by omega, List.append_assoc]
          congr 1
          congr 1
          unfold Inp.evE
          rw [HCC.out, HD.out, compl_up p q m hq1 hqn]
          cases compl p.crA q m <;> simp [cuts]
        rw [e]
        exact HOW1.out
    · have hqn : q - 1 = p.n := by have := of_decide_eq_false h; omega
      clear h
      go_wp2_with fail
      have hown := HOWN.out
      rw [hqn] at hown
      refine HQ.out _ _ ev ?_ (by simp [hT, a43]) hown HO.out
      repeat (refine Keeps.put ?_ _ _ (by first | exact .inr ⟨by decide, by decide⟩ | exact .inl (by decide)))
      exact HK.out
  · rw [HI.out]
    refine ⟨1, by omega, by omega, Keeps.refl, t45, v, t43, ?_, OnlyT.refl⟩
    simpa [rowQ] using HV0.out

theorem f3_8 (p : Inp) (hp : p.ok) (B : Nat) (v10 : Value) (w : World) (hBw : B ≤ w.heap.size) (hC : Row w B 23 7 (fun k => .int .i64 (upTo p.n p.crA k))) (hb : BytesAt w B v10 p.le p.fe) (T : Array Value) (Q : Exit → Act → World → Prop) (hT0 : T.size = 735) (t10 : T[10]?.getD undef = v10) (t23 : T[23]?.getD undef = .int .i64 p.n) (t24 : T[24]?.getD undef = .int .i64 p.last) (t35 : T[35]?.getD undef = .func (.func 8) #[] #[.pointer (some ⟨B, 0, none⟩)]) (t43 : T[43]?.getD undef = .slice none 0 0) (t44 : T[44]?.getD undef = .int .i64 0)
    (hQ : ∀ T' w' v', Keeps 81 734 [43, 44, 45, 46, 47, 48] T T' → T'[43]?.getD undef = v' → w'.ownsRow B 40 3 v' (allE p (p.last + 1)).length (evsV (allE p (p.last + 1))) → OnlyT B [40] w w' → Q .normal ⟨T', []⟩ w') : (blkOf Yba.f3 8).wp Yba.prog Q ⟨T, []⟩ w := by
  conv in (blkOf Yba.f3 8) => whnf
  refine wp_block ?_
  have HQ := hidP hQ
  have HP := hidP hp
  have HC := hidP hC
  have HB := hidP hb
  have hn6 := hp.n6
  have hl5 := hp.l5
  clear hQ hp hC hb
  obtain ⟨I, hI⟩ : ∃ I : Nat → Array Value → World → Prop, I = (fun k T2 wr => ∃ m, m + k = p.last + 1 ∧ Keeps 81 734 [43, 44, 45, 46, 47, 48] T T2 ∧ T2[44]?.getD undef = .int .i64 m ∧ ∃ ev, T2[43]?.getD undef = ev ∧ wr.ownsRow B 40 3 ev (allE p m).length (evsV (allE p m)) ∧ OnlyT B [40] w wr) := ⟨_, rfl⟩
  have HI := hidP hI
  clear hI
  refine wp_loop_n I ?_ (p.last + 1) _ _ ?_
  · intro k T2 wr hIk
    rw [HI.out] at hIk
    obtain ⟨m, hmk, hK, u44, ev, u43, hown, ho⟩ := hIk
    have hT : T2.size = 735 := hK.1.trans hT0
    have a10 := hK.at' hT 10 (by decide) t10 (by decide) (by decide)
    have a23 := hK.at' hT 23 (by decide) t23 (by decide) (by decide)
    have a24 := hK.at' hT 24 (by decide) t24 (by decide) (by decide)
    have a35 := hK.at' hT 35 (by decide) t35 (by decide) (by decide)
    have a43 : T2[43]'(by omega) = _ := at_of _ u43
    have a44 : T2[44]'(by omega) = _ := at_of _ u44
    have HK := hidP hK
    clear hK u43 u44
    have HOWN := hidP hown
    have HO := hidP ho
    clear hown ho
    go_upto_if 246 with fail
    refine wp_cond_at (decide (m ≤ p.last)) (by simp [Act.eval, hT]) (fun h => ?_) (fun h => ?_)
    · have hml : m ≤ p.last := of_decide_eq_true h
      clear h
      refine gen_frame (fun T2 => T2.size = 735 ∧ Keeps 81 734 [43, 44, 45, 46, 47, 48] T T2 ∧ T2[43]?.getD undef = ev ∧ T2[44]?.getD undef = .int .i64 m) ⟨by simp [hT], ?_, by simp [hT, a10, a23, a24, a35, a43, a44], by simp [hT, a10, a23, a24, a35, a43, a44]⟩ ?_
      · repeat (refine Keeps.put ?_ _ _ (by first | exact .inr ⟨by decide, by decide⟩ | exact .inl (by decide)))
        exact HK.out
      clear a10 a23 a24 a35 a43 a44 HK hT
      clear T2
      rintro T2 ⟨hT, hK, u43, u44⟩
      have a10 := hK.at' hT 10 (by decide) t10 (by decide) (by decide)
      have a23 := hK.at' hT 23 (by decide) t23 (by decide) (by decide)
      have a24 := hK.at' hT 24 (by decide) t24 (by decide) (by decide)
      have a35 := hK.at' hT 35 (by decide) t35 (by decide) (by decide)
      have a43 : T2[43]'(by omega) = _ := at_of _ u43
      have a44 : T2[44]'(by omega) = _ := at_of _ u44
      have HK := hidP hK
      clear hK u43 u44
      have hal := allE_len p HP.out m
      go_upto_block 10 with fail
      have hks : ∀ x3, Keeps 81 734 [43, 44, 45, 46, 47, 48] T (T2.setIfInBounds 45 x3) := fun x3 => by
        repeat (refine Keeps.put ?_ _ _ (by first | exact .inr ⟨by decide, by decide⟩ | exact .inl (by decide)))
        exact HK.out
      refine f3_10 p HP.out B m hml v10 ev wr (allE p m) (by omega) HOWN.out (HC.out.onlyT HO.out (by decide)) (HB.out.onlyT HO.out) _ _ (by simp [hT]) ((hks _).get t10 (by decide) (by decide)) ((hks _).get t23 (by decide) (by decide)) ((hks _).get t35 (by decide) (by decide)) (by simp [hT, a44]) (by simp [hT, a43]) (by simp [hT]) ?_
      intro T3 w1 v1 hK3 e43 hown1 ho1
      have hK4 : Keeps 81 734 [43, 44, 45, 46, 47, 48] T T3 := Keeps.trans (hks _) (hK3.mono (fun i hi => by simp at hi; exact .inl (by simp; omega)) (by decide) (by decide))
      have hT3 : T3.size = 735 := hK4.1.trans hT0
      have b43 : T3[43]'(by omega) = v1 := at_of _ e43
      have b44 : T3[44]'(by omega) = .int .i64 m := at_of _ (hK3.get (by simp [hT, a44]) (by decide) (by decide))
      have HOW1 := hidP hown1
      have HO1 := hidP (HO.out.trans ho1)
      have HK4 := hidP hK4
      clear hK3 hK4 hks hown1 ho1 e43 a10 a23 a24 a35 a43 a44 HK
      go_wp2_with fail
      first | refine ⟨trivial, k - 1, by omega, ?_⟩ | refine ⟨k - 1, by omega, ?_⟩
      rw [HI.out]
      refine ⟨m + 1, by omega, ?_, by simp [hT3], v1, by simp [hT3, b43], ?_, HO1.out⟩
      · repeat (refine Keeps.put ?_ _ _ (by first | exact .inr ⟨by decide, by decide⟩ | exact .inl (by decide)))
        exact HK4.out
      · rw [allE_succ]
        exact HOW1.out
    · have hml : m = p.last + 1 := by have := of_decide_eq_false h; omega
      clear h
      go_wp2_with fail
      have hown := HOWN.out
      rw [hml] at hown
      refine HQ.out _ _ ev ?_ (by simp [hT, a43]) hown HO.out
      repeat (refine Keeps.put ?_ _ _ (by first | exact .inr ⟨by decide, by decide⟩ | exact .inl (by decide)))
      exact HK.out
  · rw [HI.out]
    exact ⟨0, by omega, Keeps.refl, t44, .slice none 0 0, t43, ⟨rfl, .inl ⟨rfl, rfl⟩⟩, OnlyT.refl⟩

end Go.Proofs.Ybulkcawy
