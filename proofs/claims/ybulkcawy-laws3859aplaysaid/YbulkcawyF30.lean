/-
  LawS3859APlay's first loop: the crashes.
-/
import Derived.Test.YbulkcawyF3Plain
namespace Go.Proofs.Ybulkcawy
open Go.RowKit
set_option linter.unusedSimpArgs false
set_option linter.unusedVariables false
set_option maxRecDepth 100000
set_option maxHeartbeats 4000000

theorem info32 : (Yba.prog.info? 32).map (fun i => (i.zero, i.size, i.bytes)) = some (some (.agg #[.int .i64 0, .int .i64 0, .slice none 0 0]), 3, 40) := by kernel_rfl

theorem f3_0 (p : Inp) (hp : p.ok) (B : Nat) (v4 v5 v6 : Value) (w : World) (h1 : Row w B 23 7 (fun _ => .int .i64 0)) (h2 : Row w (B + 1) 24 7 (fun _ => .int .u8 0)) (h3 : Row w (B + 2) 23 7 (fun _ => .int .i64 0)) (hb4 : BytesAt w B v4 p.lc p.fc) (hb5 : BytesAt w B v5 p.lr p.fr) (hb6 : BytesAt w B v6 p.ld p.fd)
    (T : Array Value) (Q : Exit → Act → World → Prop) (hT0 : T.size = 735) (t4 : T[4]?.getD undef = v4) (t5 : T[5]?.getD undef = v5) (t6 : T[6]?.getD undef = v6) (t23 : T[23]?.getD undef = .int .i64 p.n) (t24 : T[24]?.getD undef = .int .i64 p.last) (t25 : T[25]?.getD undef = .pointer (some ⟨B, 0, none⟩)) (t26 : T[26]?.getD undef = .pointer (some ⟨B + 1, 0, none⟩)) (t27 : T[27]?.getD undef = .pointer (some ⟨B + 2, 0, none⟩)) (t29 : T[29]?.getD undef = .slice none 0 0) (t30 : T[30]?.getD undef = .int .i64 1)
    (hQ : ∀ T' w' cv, Keeps 81 734 [29, 30, 31, 32, 33, 34] T T' → T'[29]?.getD undef = cv → Row w' B 23 7 (fun k => .int .i64 (upTo (p.n) p.crA k)) ∧ Row w' (B + 1) 24 7 (fun k => .int .u8 (upTo (p.n) p.reA k)) ∧ Row w' (B + 2) 23 7 (fun k => .int .i64 (upTo (p.n) p.dcA k)) ∧ FailO w' B 32 cv (p.clA (p.n)) ∧ BytesAt w' B v4 p.lc p.fc ∧ BytesAt w' B v5 p.lr p.fr ∧ BytesAt w' B v6 p.ld p.fd ∧ OnlyT B [23, 24, 32] w w' → Q .normal ⟨T', []⟩ w') : (blkOf Yba.f3 0).wp Yba.prog Q ⟨T, []⟩ w := by
  conv in (blkOf Yba.f3 0) => whnf
  refine wp_block ?_
  have HQ := hidP hQ
  have HP := hidP hp
  have hn6 := hp.n6
  have hn1 := hp.n1
  have hl5 := hp.l5
  obtain ⟨ic, hic, hzc0, hzc1, hzc2⟩ := info_parts info32
  obtain ⟨I, hI⟩ : ∃ I : Nat → Array Value → World → Prop, I = (fun k T2 wr => ∃ q, 1 ≤ q ∧ q + k = p.n + 1 ∧ Keeps 81 734 [29, 30, 31, 32, 33, 34] T T2 ∧ T2[30]?.getD undef = .int .i64 q ∧ ∃ cv, T2[29]?.getD undef = cv ∧ Row wr B 23 7 (fun k => .int .i64 (upTo (q - 1) p.crA k)) ∧ Row wr (B + 1) 24 7 (fun k => .int .u8 (upTo (q - 1) p.reA k)) ∧ Row wr (B + 2) 23 7 (fun k => .int .i64 (upTo (q - 1) p.dcA k)) ∧ FailO wr B 32 cv (p.clA (q - 1)) ∧ BytesAt wr B v4 p.lc p.fc ∧ BytesAt wr B v5 p.lr p.fr ∧ BytesAt wr B v6 p.ld p.fd ∧ OnlyT B [23, 24, 32] w wr) := ⟨_, rfl⟩
  have HI := hidP hI
  have H0 := hidP (And.intro h1 (And.intro h2 (And.intro h3 (And.intro hb4 (And.intro hb5 hb6)))))
  clear hQ hp hI h1 h2 h3 hb4 hb5 hb6
  refine wp_loop_n I ?_ p.n _ _ ?_
  · intro k T2 wr hIk
    rw [HI.out] at hIk
    obtain ⟨q, hq1, hqk, hK, u30, cv, u29, hrows⟩ := hIk
    have hT : T2.size = 735 := hK.1.trans hT0
    have a4 := hK.at' hT 4 (by decide) t4 (by decide) (by decide)
    have a5 := hK.at' hT 5 (by decide) t5 (by decide) (by decide)
    have a6 := hK.at' hT 6 (by decide) t6 (by decide) (by decide)
    have a23 := hK.at' hT 23 (by decide) t23 (by decide) (by decide)
    have a24 := hK.at' hT 24 (by decide) t24 (by decide) (by decide)
    have a25 := hK.at' hT 25 (by decide) t25 (by decide) (by decide)
    have a26 := hK.at' hT 26 (by decide) t26 (by decide) (by decide)
    have a27 := hK.at' hT 27 (by decide) t27 (by decide) (by decide)
    have a29 : T2[29]'(by omega) = _ := at_of _ u29
    have a30 : T2[30]'(by omega) = _ := at_of _ u30
    have HK := hidP hK
    clear hK u29 u30
    have HR := hidP hrows
    clear hrows
    go_upto_if 90 with fail
    refine wp_cond_at (decide (q ≤ p.n)) (by simp [Act.eval, hT]) (fun h => ?_) (fun h => ?_)
    · have hqn : q ≤ p.n := of_decide_eq_true h
      clear h
      refine gen_frame (fun T2 => T2.size = 735 ∧ Keeps 81 734 [29, 30, 31, 32, 33, 34] T T2 ∧ T2[29]?.getD undef = cv ∧ T2[30]?.getD undef = .int .i64 q) ⟨by simp [hT], ?_, by simp [hT, a4, a5, a6, a23, a24, a25, a26, a27, a29, a30], by simp [hT, a4, a5, a6, a23, a24, a25, a26, a27, a29, a30]⟩ ?_
      · repeat (refine Keeps.put ?_ _ _ (by first | exact .inr ⟨by decide, by decide⟩ | exact .inl (by decide)))
        exact HK.out
      clear a4 a5 a6 a23 a24 a25 a26 a27 a29 a30 HK hT
      clear T2
      rintro T2 ⟨hT, hK, u29, u30⟩
      have a4 := hK.at' hT 4 (by decide) t4 (by decide) (by decide)
      have a5 := hK.at' hT 5 (by decide) t5 (by decide) (by decide)
      have a6 := hK.at' hT 6 (by decide) t6 (by decide) (by decide)
      have a23 := hK.at' hT 23 (by decide) t23 (by decide) (by decide)
      have a24 := hK.at' hT 24 (by decide) t24 (by decide) (by decide)
      have a25 := hK.at' hT 25 (by decide) t25 (by decide) (by decide)
      have a26 := hK.at' hT 26 (by decide) t26 (by decide) (by decide)
      have a27 := hK.at' hT 27 (by decide) t27 (by decide) (by decide)
      have a29 : T2[29]'(by omega) = _ := at_of _ u29
      have a30 : T2[30]'(by omega) = _ := at_of _ u30
      have HK := hidP hK
      clear hK u29 u30
      obtain ⟨j, hj⟩ : ∃ j, j = q - 1 := ⟨_, rfl⟩
      have hjI : (q : Int) - 1 = (j : Int) := by omega
      have h0j : (0 : Int) ≤ (j : Int) := by omega
      have HJ := hidP hj
      clear hj
      -- the crash's round
      obtain ⟨m4, c4, e4⟩ := HR.out.2.2.2.2.1.form
      rw [e4] at a4
      go_upto_if 97 with fail
      rename_i K97 hK97
      have HK97 := hidP hK97
      clear hK97
      suffices merge : ∀ T2, T2.size = 735 ∧ Keeps 81 734 [29, 30, 31, 32, 33, 34] T T2 ∧ T2[29]?.getD undef = cv ∧ T2[30]?.getD undef = .int .i64 q ∧ T2[31]?.getD undef = .int .i64 (p.cA q) → K97 ⟨T2, []⟩ wr by
        have MERGE := hidP merge
        clear merge
        by_cases hlt : j < p.lc
        · obtain ⟨b, off, cap, e4', cB⟩ := HR.out.2.2.2.2.1.at hlt
          have hE : Value.slice m4 p.lc c4 = .slice (some ⟨b, off, none⟩) p.lc cap := e4.symm.trans e4'
          rw [hE] at a4
          have hjl : (j : Int) < (p.lc : Int) := by omega
          have hf := HP.out.bc j
          have hmod : ((p.fc j : Nat) : Int) % ((p.last : Int) + 2) = ((p.cA q : Nat) : Int) := by
            unfold Inp.cA
            rw [← HJ.out, if_pos hlt]
            push_cast
            rfl
          refine wp_cond_at true (by simp [Act.eval, hT, hlt]) (fun _ => ?_) (fun h => by cases h)
          go_wp2_with fail
          refine MERGE.out _ ⟨by simp [hT], ?_, by simp [hT, a4, a5, a6, a23, a24, a25, a26, a27, a29, a30], by simp [hT, a4, a5, a6, a23, a24, a25, a26, a27, a29, a30], by simp [hT, a4, a5, a6, a23, a24, a25, a26, a27, a29, a30]⟩
          repeat (refine Keeps.put ?_ _ _ (by first | exact .inr ⟨by decide, by decide⟩ | exact .inl (by decide)))
          exact HK.out
        · have hcz : p.cA q = 0 := by unfold Inp.cA; rw [← HJ.out, if_neg hlt]
          refine wp_cond_at false (by simp [Act.eval, hT, hlt]) (fun h => by cases h) (fun _ => ?_)
          go_wp2_with fail
          refine MERGE.out _ ⟨by simp [hT], ?_, by simp [hT, a4, a5, a6, a23, a24, a25, a26, a27, a29, a30, hcz], by simp [hT, a4, a5, a6, a23, a24, a25, a26, a27, a29, a30, hcz], by simp [hT, a4, a5, a6, a23, a24, a25, a26, a27, a29, a30, hcz]⟩
          repeat (refine Keeps.put ?_ _ _ (by first | exact .inr ⟨by decide, by decide⟩ | exact .inl (by decide)))
          exact HK.out
      clear a4 a5 a6 a23 a24 a25 a26 a27 a29 a30 hT HK
      clear T2
      rintro T2 ⟨hT, hK, u29, u30, u31⟩
      have a4 := hK.at' hT 4 (by decide) t4 (by decide) (by decide)
      have a5 := hK.at' hT 5 (by decide) t5 (by decide) (by decide)
      have a6 := hK.at' hT 6 (by decide) t6 (by decide) (by decide)
      have a23 := hK.at' hT 23 (by decide) t23 (by decide) (by decide)
      have a24 := hK.at' hT 24 (by decide) t24 (by decide) (by decide)
      have a25 := hK.at' hT 25 (by decide) t25 (by decide) (by decide)
      have a26 := hK.at' hT 26 (by decide) t26 (by decide) (by decide)
      have a27 := hK.at' hT 27 (by decide) t27 (by decide) (by decide)
      have a29 : T2[29]'(by omega) = _ := at_of _ u29
      have a30 : T2[30]'(by omega) = _ := at_of _ u30
      have a31 : T2[31]'(by omega) = _ := at_of _ u31
      have HK := hidP hK
      clear hK u29 u30 u31
      refine HK97.out _ _ ?_
      -- the byte of whom it reaches
      obtain ⟨m5, c5, e5⟩ := HR.out.2.2.2.2.2.1.form
      rw [e5] at a5
      go_upto_if 111 with fail
      rename_i K111 hK111
      have HK111 := hidP hK111
      clear hK111
      suffices merge : ∀ T2, T2.size = 735 ∧ Keeps 81 734 [29, 30, 31, 32, 33, 34] T T2 ∧ T2[29]?.getD undef = cv ∧ T2[30]?.getD undef = .int .i64 q ∧ T2[31]?.getD undef = .int .i64 (p.cA q) ∧ T2[32]?.getD undef = .int .u8 (p.rmA q) → K111 ⟨T2, []⟩ wr by
        have MERGE := hidP merge
        clear merge
        by_cases hlt : j < p.lr
        · obtain ⟨b, off, cap, e5', cB⟩ := HR.out.2.2.2.2.2.1.at hlt
          have hE : Value.slice m5 p.lr c5 = .slice (some ⟨b, off, none⟩) p.lr cap := e5.symm.trans e5'
          rw [hE] at a5
          have hjl : (j : Int) < (p.lr : Int) := by omega
          have hrm : p.fr j = p.rmA q := by unfold Inp.rmA; rw [← HJ.out, if_pos hlt]
          refine wp_cond_at true (by simp [Act.eval, hT, hlt]) (fun _ => ?_) (fun h => by cases h)
          go_wp2_with fail
          refine MERGE.out _ ⟨by simp [hT], ?_, by simp [hT, a4, a5, a6, a23, a24, a25, a26, a27, a29, a30, a31, hrm], by simp [hT, a4, a5, a6, a23, a24, a25, a26, a27, a29, a30, a31, hrm], by simp [hT, a4, a5, a6, a23, a24, a25, a26, a27, a29, a30, a31, hrm], by simp [hT, a4, a5, a6, a23, a24, a25, a26, a27, a29, a30, a31, hrm]⟩
          repeat (refine Keeps.put ?_ _ _ (by first | exact .inr ⟨by decide, by decide⟩ | exact .inl (by decide)))
          exact HK.out
        · have hrm : p.rmA q = 0 := by unfold Inp.rmA; rw [← HJ.out, if_neg hlt]
          refine wp_cond_at false (by simp [Act.eval, hT, hlt]) (fun h => by cases h) (fun _ => ?_)
          go_wp2_with fail
          refine MERGE.out _ ⟨by simp [hT], ?_, by simp [hT, a4, a5, a6, a23, a24, a25, a26, a27, a29, a30, a31, hrm], by simp [hT, a4, a5, a6, a23, a24, a25, a26, a27, a29, a30, a31, hrm], by simp [hT, a4, a5, a6, a23, a24, a25, a26, a27, a29, a30, a31, hrm], by simp [hT, a4, a5, a6, a23, a24, a25, a26, a27, a29, a30, a31, hrm]⟩
          repeat (refine Keeps.put ?_ _ _ (by first | exact .inr ⟨by decide, by decide⟩ | exact .inl (by decide)))
          exact HK.out
      clear a4 a5 a6 a23 a24 a25 a26 a27 a29 a30 a31 hT HK
      clear T2
      rintro T2 ⟨hT, hK, u29, u30, u31, u32⟩
      have a4 := hK.at' hT 4 (by decide) t4 (by decide) (by decide)
      have a5 := hK.at' hT 5 (by decide) t5 (by decide) (by decide)
      have a6 := hK.at' hT 6 (by decide) t6 (by decide) (by decide)
      have a23 := hK.at' hT 23 (by decide) t23 (by decide) (by decide)
      have a24 := hK.at' hT 24 (by decide) t24 (by decide) (by decide)
      have a25 := hK.at' hT 25 (by decide) t25 (by decide) (by decide)
      have a26 := hK.at' hT 26 (by decide) t26 (by decide) (by decide)
      have a27 := hK.at' hT 27 (by decide) t27 (by decide) (by decide)
      have a29 : T2[29]'(by omega) = _ := at_of _ u29
      have a30 : T2[30]'(by omega) = _ := at_of _ u30
      have a31 : T2[31]'(by omega) = _ := at_of _ u31
      have a32 : T2[32]'(by omega) = _ := at_of _ u32
      have HK := hidP hK
      clear hK u29 u30 u31 u32
      refine HK111.out _ _ ?_
      -- a crash
      have hcle := Inp.cA_le p q
      have hrmb : p.rmA q ≤ 255 := by
        unfold Inp.rmA
        split
        · exact HP.out.br _
        · omega
      go_upto_if 118 with fail
      rename_i K118 hK118
      have HK118 := hidP hK118
      clear hK118
      suffices merge : ∀ T2 w1 cv1, (T2.size = 735 ∧ Keeps 81 734 [29, 30, 31, 32, 33, 34] T T2 ∧ T2[29]?.getD undef = cv1 ∧ T2[30]?.getD undef = .int .i64 q) ∧ Row w1 B 23 7 (fun k => .int .i64 (upTo (q + 1 - 1) p.crA k)) ∧ Row w1 (B + 1) 24 7 (fun k => .int .u8 (upTo (q + 1 - 1) p.reA k)) ∧ Row w1 (B + 2) 23 7 (fun k => .int .i64 (upTo (q - 1) p.dcA k)) ∧ FailO w1 B 32 cv1 (p.clA (q + 1 - 1)) ∧ BytesAt w1 B v4 p.lc p.fc ∧ BytesAt w1 B v5 p.lr p.fr ∧ BytesAt w1 B v6 p.ld p.fd ∧ OnlyT B [23, 24, 32] w w1 → K118 ⟨T2, []⟩ w1 by
        have MERGE := hidP merge
        clear merge
        by_cases hc0 : 0 < p.cA q
        · refine wp_cond_at true (by simp [Act.eval, hT, hc0]) (fun _ => ?_) (fun h => by cases h)
          obtain ⟨r1, r2, r3, r4, r5, r6, r7, r8⟩ := HR.out
          have hBw : B ≤ wr.heap.size := r5.2.1
          have HR' := hidP (And.intro r1 (And.intro r2 r3))
          clear r1 r2 r3 r4 r5 r6 r7 r8
          go_upto_block 2 with fail
          have hks : ∀ x1 x2 x3 x4, Keeps 81 734 [29, 30, 31, 32, 33, 34] T ((((T2.setIfInBounds 117 x1).setIfInBounds 118 x2).setIfInBounds 33 x3).setIfInBounds 34 x4) := fun x1 x2 x3 x4 => by
            repeat (refine Keeps.put ?_ _ _ (by first | exact .inr ⟨by decide, by decide⟩ | exact .inl (by decide)))
            exact HK.out
          refine f3_2 B p.n (p.rmA q) hn6 hrmb wr hBw _ _ (by simp [hT]) (by simp [hT, a23]) (by simp [hT, a32]) (by simp [hT]) (by simp [hT]) ?_
          intro T3 w1 tv hK3 e33 hown hon
          have hK4 : Keeps 81 734 [29, 30, 31, 32, 33, 34] T T3 := Keeps.trans (hks _ _ _ _) (hK3.mono (fun i hi => by simp at hi; rcases hi with rfl | rfl <;> exact .inl (by decide)) (by decide) (by decide))
          have hT3 : T3.size = 735 := hK4.1.trans hT0
          have b29 : T3[29]'(by omega) = cv := at_of _ (hK3.get (by simp [hT, a29]) (by decide) (by decide))
          have b30 : T3[30]'(by omega) = .int .i64 q := at_of _ (hK3.get (by simp [hT, a30]) (by decide) (by decide))
          have b31 : T3[31]'(by omega) = .int .i64 (p.cA q) := at_of _ (hK3.get (by simp [hT, a31]) (by decide) (by decide))
          have b32 : T3[32]'(by omega) = .int .u8 (p.rmA q) := at_of _ (hK3.get (by simp [hT, a32]) (by decide) (by decide))
          have b24 := hK4.at' hT3 24 (by decide) t24 (by decide) (by decide)
          have b25 := hK4.at' hT3 25 (by decide) t25 (by decide) (by decide)
          have b26 := hK4.at' hT3 26 (by decide) t26 (by decide) (by decide)
          obtain ⟨ta, tl, tc, htv⟩ : ∃ ta tl tc, tv = .slice ta tl tc := by
            rcases hown.2 with ⟨h, _⟩ | ⟨g, cp, cur, h, _⟩
            · exact ⟨none, 0, 0, h⟩
            · exact ⟨_, _, _, h⟩
          subst htv
          have b33 : T3[33]'(by omega) = .slice ta tl tc := at_of _ e33
          have hot : OnlyT B [23, 24, 32] wr w1 := OnlyT.of_none hon
          have HOW := hidP hown
          obtain ⟨r1, r2, r3, r4, r5, r6, r7, r8⟩ := HR.out
          obtain ⟨tvs, f1, f2, f3⟩ := r4
          have HF2 := hidP (own_onlyT f2 (OnlyT.of_none (B := B) (ts := []) hon) (by simp))
          have HF3 : Hid (∀ k (hk : k < (p.clA (q - 1)).length) (hk' : k < tvs.length), w1.ownsRow B 3 1 tvs[k] (p.clA (q - 1))[k].xs.length (natsV (p.clA (q - 1))[k].xs)) := hidP (fun k hk hk' => own_onlyT (f3 k hk hk') (OnlyT.of_none (B := B) (ts := []) hon) (by simp))
          have H1 := hidP (And.intro (r1.only hon (fun h => h)) (And.intro (r2.only hon (fun h => h)) (And.intro (r3.only hon (fun h => h)) (And.intro (r5.onlyT hot) (And.intro (r6.onlyT hot) (And.intro (r7.onlyT hot) (r8.trans hot)))))))
          have hcl := Inp.clA_len p (q - 1)
          have hsz1 := hon.size
          have HK4 := hidP hK4
          have hfl := failC_len (p.clA (q - 1)) tvs f1
          clear r1 r2 r3 r5 r6 r7 r8 f2 f3 hK3 hK4 e33 hown hon hot hks a4 a5 a6 a23 a24 a25 a26 a27 a29 a30 a31 a32 HK
          go_wp2_with (at_builtin; refine wpList_append_lies _ rfl _ _ 28 rfl B 32 ic (.agg #[.int .i64 0, .int .i64 0, .slice none 0 0]) 3 40 (by kernel_rfl) hic hzc0 hzc1 hzc2 rfl (by decide) cv (p.clA (q - 1)).length (failC (p.clA (q - 1)) tvs) (by simp [Act.eval, hT3]) ?c1 ⟨w1.heap.size, 0, none⟩ 1 1 [.int .i64 q, .int .i64 (p.cA q), .slice ta tl tc] (by simp [Act.eval, hT3]) rfl ?c2 (by simp [Value.oneCell']) (by decide) (by show _ ≤ 9223372036854775807; omega) (by omega) ?c3 (w1.heap.size + 1) ?c4 ?_)
          case c1 => exact HF2.out.alloc _
          first | (case c2 => exact World.news_of_block (heap_alloc_new w1 (.cells #[.int .i64 q, .int .i64 (p.cA q), .slice ta tl tc] 32))) | skip
          case c3 => first | omega | (simp; omega)
          first | (case c4 => simp) | skip
          intro gg cp w2 hown1 hgrow hat hlt
          have hog := grown_own HF2.out (Only.refl.alloc _) hown1 hgrow
          have hot2 : OnlyT B [32] w1 w2 := OnlyT.own HF2.out (by simp) hog
          have hfo : FailO w2 B 32 (.slice (some ⟨gg, 0, none⟩) ((p.clA (q - 1)).length + 1) cp) (p.clA (q + 1 - 1)) := by
            have e : p.clA (q + 1 - 1) = p.clA (q - 1) ++ [⟨q, p.cA q, bitsL (p.rmA q) p.n⟩] := by
              rw [show q + 1 - 1 = q - 1 + 1 by omega, Inp.clA_succ, show q - 1 + 1 = q by omega, if_pos hc0]
            rw [e]
            refine ⟨tvs ++ [.slice ta tl tc], by simp [f1], ?_, fun k hk hk' => ?_⟩
            · rw [failC_snoc _ _ f1]
              simpa using hown1
            · by_cases h : k < (p.clA (q - 1)).length
              · have h' : k < tvs.length := by omega
                rw [List.getElem_append_left h', List.getElem_append_left h]
                exact own_onlyT (HF3.out k h h') hot2 (by decide)
              · have h2 : k = (p.clA (q - 1)).length := by simp at hk; omega
                have h3 : k = tvs.length := by omega
                rw [List.getElem_append_right (by omega), List.getElem_append_right (by omega)]
                simp only [h2, Nat.sub_self, f1, List.getElem_cons_zero]
                exact own_onlyT HOW.out hot2 (by decide)
          have HFO := hidP hfo
          obtain ⟨r1, r2, r3, r5, r6, r7, r8⟩ := H1.out
          have q1 := r1.onlyT hot2 (by decide)
          have q2 := r2.onlyT hot2 (by decide)
          have H2 := hidP (And.intro q1 (And.intro q2 (And.intro (r3.onlyT hot2 (by decide)) (And.intro (r5.onlyT hot2) (And.intro (r6.onlyT hot2) (And.intro (r7.onlyT hot2) (r8.trans (hot2.mono (by simp)))))))))
          have i1 : (0 : Int) ≤ (q : Int) := by omega
          have i2 : (q : Int) < 7 := by omega
          have cc1 := q1.cell q (by omega)
          have cf1 := q1.frozen q
          have cc2 := q2.cell q (by omega)
          have cf2 := q2.frozen q
          clear r1 r2 r3 r5 r6 r7 r8 q1 q2 hown1 hgrow hat hlt hog hot2 hfo
          go_upto_if 144 with fail
          obtain ⟨r1, r2, r3, r5, r6, r7, r8⟩ := H2.out
          by_cases hcl2 : p.cA q ≤ p.last
          · refine wp_cond_at true (by simp [Act.eval, hT3, hcl2]) (fun _ => ?_) (fun h => by cases h)
            refine gen_frame (fun T3 => T3.size = 735 ∧ Keeps 81 734 [29, 30, 31, 32, 33, 34] T T3 ∧ T3[29]?.getD undef = .slice (some ⟨gg, 0, none⟩) ((p.clA (q - 1)).length + 1) cp ∧ T3[30]?.getD undef = .int .i64 q ∧ T3[31]?.getD undef = .int .i64 (p.cA q) ∧ T3[32]?.getD undef = .int .u8 (p.rmA q)) ⟨by simp [hT3], ?_, by simp [hT3], by simp [hT3, b30], by simp [hT3, b31], by simp [hT3, b32]⟩ ?_
            · repeat (refine Keeps.put ?_ _ _ (by first | exact .inr ⟨by decide, by decide⟩ | exact .inl (by decide)))
              exact HK4.out
            have HR8 := hidP (And.intro r1 (And.intro r2 (And.intro r3 (And.intro r5 (And.intro r6 (And.intro r7 r8))))))
            clear b24 b25 b26 b29 b30 b31 b32 b33 HK4 hT3 r1 r2 r3 r5 r6 r7 r8
            clear T3
            rintro T3 ⟨hT3, hK4, s29, s30, s31, s32⟩
            have b25 := hK4.at' hT3 25 (by decide) t25 (by decide) (by decide)
            have b26 := hK4.at' hT3 26 (by decide) t26 (by decide) (by decide)
            have b29 : T3[29]'(by omega) = _ := at_of _ s29
            have b30 : T3[30]'(by omega) = _ := at_of _ s30
            have b31 : T3[31]'(by omega) = _ := at_of _ s31
            have b32 : T3[32]'(by omega) = _ := at_of _ s32
            have HK4 := hidP hK4
            have hBB : B + 1 ≠ B := by omega
            clear hK4 s29 s30 s31 s32
            go_wp2_with fail
            obtain ⟨r1, r2, r3, r5, r6, r7, r8⟩ := HR8.out
            have o1 : OnlyT B [23, 24, 32] w2 (w2.setCell ⟨B, q, none⟩ (.int .i64 (p.cA q))) := OnlyT.one r1 (Nat.le_refl _) (by simp) (Only.setCell (S := fun x => x = B) Only.refl (p := ⟨B, q, none⟩) (fun _ => rfl) _)
            have s1 := r1.set q (.int .i64 (p.cA q))
            have s2 := r2.far ⟨B, q, none⟩ (.int .i64 (p.cA q)) (by show B + 1 ≠ B; omega)
            have s3 := r3.far ⟨B, q, none⟩ (.int .i64 (p.cA q)) (by show B + 2 ≠ B; omega)
            have o2 : OnlyT B [23, 24, 32] (w2.setCell ⟨B, q, none⟩ (.int .i64 (p.cA q))) ((w2.setCell ⟨B, q, none⟩ (.int .i64 (p.cA q))).setCell ⟨B + 1, q, none⟩ (.int .u8 (p.rmA q))) := OnlyT.one s2 (by omega) (by simp) (Only.setCell (S := fun x => x = B + 1) Only.refl (p := ⟨B + 1, q, none⟩) (fun _ => rfl) _)
            have s1' := s1.far ⟨B + 1, q, none⟩ (.int .u8 (p.rmA q)) (by show B ≠ B + 1; omega)
            have s2' := s2.set q (.int .u8 (p.rmA q))
            have s3' := s3.far ⟨B + 1, q, none⟩ (.int .u8 (p.rmA q)) (by show B + 2 ≠ B + 1; omega)
            have o12 := o1.trans o2
            have ofs : OnlyT B [23, 24] w2 ((w2.setCell ⟨B, q, none⟩ (.int .i64 (p.cA q))).setCell ⟨B + 1, q, none⟩ (.int .u8 (p.rmA q))) := (OnlyT.one r1 (Nat.le_refl _) (by simp) (Only.setCell (S := fun x => x = B) Only.refl (p := ⟨B, q, none⟩) (fun _ => rfl) _)).trans (OnlyT.one s2 (by omega) (by simp) (Only.setCell (S := fun x => x = B + 1) Only.refl (p := ⟨B + 1, q, none⟩) (fun _ => rfl) _))
            refine MERGE.out _ _ _ ⟨⟨by simp [hT3], ?_, by simp [hT3, b29], by simp [hT3, b30]⟩, s1'.ext fun x hx => ?_, s2'.ext fun x hx => ?_, s3', HFO.out.onlyT ofs (by decide) (by decide), r5.onlyT o12, r6.onlyT o12, r7.onlyT o12, r8.trans o12⟩
            · repeat (refine Keeps.put ?_ _ _ (by first | exact .inr ⟨by decide, by decide⟩ | exact .inl (by decide)))
              exact HK4.out
            · rw [upTo_succ q hq1]
              by_cases e : x = q
              · simp [e, Inp.crA, hcl2]
              · simp [e]
            · rw [upTo_succ q hq1]
              by_cases e : x = q
              · simp [e, Inp.reA, hcl2, hc0]
              · simp [e]
          · refine wp_cond_at false (by simp [Act.eval, hT3, hcl2]) (fun h => by cases h) (fun _ => ?_)
            have HR8 := hidP (And.intro r1 (And.intro r2 (And.intro r3 (And.intro r5 (And.intro r6 (And.intro r7 r8))))))
            clear r1 r2 r3 r5 r6 r7 r8
            go_wp2_with fail
            obtain ⟨r1, r2, r3, r5, r6, r7, r8⟩ := HR8.out
            refine MERGE.out _ _ _ ⟨⟨by simp [hT3], ?_, by simp [hT3], by simp [hT3, b30]⟩, r1.ext fun x hx => ?_, r2.ext fun x hx => ?_, r3, HFO.out, r5, r6, r7, r8⟩
            · repeat (refine Keeps.put ?_ _ _ (by first | exact .inr ⟨by decide, by decide⟩ | exact .inl (by decide)))
              exact HK4.out
            · rw [upTo_succ q hq1]
              by_cases e : x = q
              · have e0 : upTo (q - 1) p.crA q = 0 := by unfold upTo; rw [if_neg (by omega)]
                simp [e, Inp.crA, hcl2, e0]
              · simp [e]
            · rw [upTo_succ q hq1]
              by_cases e : x = q
              · have e0 : upTo (q - 1) p.reA q = 0 := by unfold upTo; rw [if_neg (by omega)]
                simp [e, Inp.reA, hcl2, e0]
              · simp [e]
        · refine wp_cond_at false (by simp [Act.eval, hT, hc0]) (fun h => by cases h) (fun _ => ?_)
          go_wp2_with fail
          obtain ⟨r1, r2, r3, r4, r5, r6, r7, r8⟩ := HR.out
          have hcz : p.cA q = 0 := by omega
          refine MERGE.out _ _ cv ⟨⟨by simp [hT], ?_, by simp [hT, a29], by simp [hT, a30]⟩, r1.ext fun x hx => ?_, r2.ext fun x hx => ?_, r3, ?_, r5, r6, r7, r8⟩
          · repeat (refine Keeps.put ?_ _ _ (by first | exact .inr ⟨by decide, by decide⟩ | exact .inl (by decide)))
            exact HK.out
          · rw [upTo_succ q hq1]
            by_cases e : x = q
            · have e0 : upTo (q - 1) p.crA q = 0 := by unfold upTo; rw [if_neg (by omega)]
              simp [e, Inp.crA, hcz, e0]
            · simp [e]
          · rw [upTo_succ q hq1]
            by_cases e : x = q
            · have e0 : upTo (q - 1) p.reA q = 0 := by unfold upTo; rw [if_neg (by omega)]
              simp [e, Inp.reA, hcz, e0]
            · simp [e]
          · have e : p.clA (q + 1 - 1) = p.clA (q - 1) := by
              rw [show q + 1 - 1 = q - 1 + 1 by omega, Inp.clA_succ, show q - 1 + 1 = q by omega, if_neg hc0, List.append_nil]
            rw [e]
            exact r4
      clear a4 a5 a6 a23 a24 a25 a26 a27 a29 a30 a31 a32 hT HK
      clear T2
      rintro T2 w1 cv1 ⟨⟨hT, hK, u29, u30⟩, r1, r2, r3, r4, r5, r6, r7, r8⟩
      have a4 := hK.at' hT 4 (by decide) t4 (by decide) (by decide)
      have a5 := hK.at' hT 5 (by decide) t5 (by decide) (by decide)
      have a6 := hK.at' hT 6 (by decide) t6 (by decide) (by decide)
      have a23 := hK.at' hT 23 (by decide) t23 (by decide) (by decide)
      have a24 := hK.at' hT 24 (by decide) t24 (by decide) (by decide)
      have a25 := hK.at' hT 25 (by decide) t25 (by decide) (by decide)
      have a26 := hK.at' hT 26 (by decide) t26 (by decide) (by decide)
      have a27 := hK.at' hT 27 (by decide) t27 (by decide) (by decide)
      have a29 : T2[29]'(by omega) = _ := at_of _ u29
      have a30 : T2[30]'(by omega) = _ := at_of _ u30
      have HK := hidP hK
      clear hK u29 u30
      refine HK118.out _ _ ?_
      -- when it decides
      obtain ⟨m6, c6, e6⟩ := r7.form
      rw [e6] at a6
      have i1 : (0 : Int) ≤ (q : Int) := by omega
      have i2 : (q : Int) < 7 := by omega
      have cc := r3.cell q (by omega)
      have cf := r3.frozen q
      obtain ⟨w2, hw2⟩ : ∃ w2, w1.setCell ⟨B + 2, q, none⟩ (.int .i64 ((p.last : Int) + 1)) = w2 := ⟨_, rfl⟩
      have o1 : OnlyT B [23, 24, 32] w1 w2 := by rw [← hw2]; exact OnlyT.one r3 (by omega) (by simp) (Only.setCell (S := fun x => x = B + 2) Only.refl (p := ⟨B + 2, q, none⟩) (fun _ => rfl) _)
      have o1' : OnlyT B [23] w1 w2 := by rw [← hw2]; exact OnlyT.one r3 (by omega) (by simp) (Only.setCell (S := fun x => x = B + 2) Only.refl (p := ⟨B + 2, q, none⟩) (fun _ => rfl) _)
      have s1 : Row w2 B 23 7 (fun k => .int .i64 (upTo (q + 1 - 1) p.crA k)) := by rw [← hw2]; exact r1.far _ _ (by show B ≠ B + 2; omega)
      have s3 : Row w2 (B + 2) 23 7 (fun k => if k = q then .int .i64 ((p.last : Int) + 1) else .int .i64 (upTo (q - 1) p.dcA k)) := by rw [← hw2]; exact r3.set q _
      have HS := hidP (And.intro s1 (And.intro (r2.onlyT o1' (by decide)) (And.intro s3 (And.intro (r4.onlyT o1' (by decide) (by decide)) (And.intro (r5.onlyT o1) (And.intro (r6.onlyT o1) (And.intro (r7.onlyT o1) (r8.trans o1))))))))
      clear r1 r2 r3 r4 r5 r6 r7 r8 o1 o1' s1 s3
      go_upto_if 159 with fail
      by_cases hlt : j < p.ld
      · obtain ⟨s1, s2, s3, s4, s5, s6, s7, s8⟩ := HS.out
        obtain ⟨b, off, cap, e6', cB⟩ := s7.at hlt
        have hE : Value.slice m6 p.ld c6 = .slice (some ⟨b, off, none⟩) p.ld cap := e6.symm.trans e6'
        rw [hE] at a6
        have hjl : (j : Int) < (p.ld : Int) := by omega
        have hf := HP.out.bd j
        have hmod : (1 : Int) + ((p.fd j : Nat) : Int) % ((p.last : Int) + 1) = ((p.dcA q : Nat) : Int) := by
          unfold Inp.dcA
          rw [← HJ.out, if_pos hlt]
          push_cast
          rfl
        have hmb : ((p.fd j : Nat) : Int) % ((p.last : Int) + 1) ≤ 255 := by
          have := Nat.mod_le (p.fd j) (p.last + 1)
          have : ((p.fd j % (p.last + 1) : Nat) : Int) = ((p.fd j : Nat) : Int) % ((p.last : Int) + 1) := by push_cast; rfl
          omega
        have cc2 := s3.cell q (by omega)
        have cf2 := s3.frozen q
        refine wp_cond_at true (by simp [Act.eval, hT, hlt]) (fun _ => ?_) (fun h => by cases h)
        refine gen_frame (fun T2 => T2.size = 735 ∧ Keeps 81 734 [29, 30, 31, 32, 33, 34] T T2 ∧ T2[29]?.getD undef = cv1 ∧ T2[30]?.getD undef = .int .i64 q) ⟨by simp [hT], ?_, by simp [hT, a4, a5, a6, a23, a24, a25, a26, a27, a29, a30], by simp [hT, a4, a5, a6, a23, a24, a25, a26, a27, a29, a30]⟩ ?_
        · repeat (refine Keeps.put ?_ _ _ (by first | exact .inr ⟨by decide, by decide⟩ | exact .inl (by decide)))
          exact HK.out
        clear a4 a5 a6 a23 a24 a25 a26 a27 a29 a30 HK hT
        clear T2
        rintro T2 ⟨hT, hK, u29, u30⟩
        have a4 := hK.at' hT 4 (by decide) t4 (by decide) (by decide)
        have a5 := hK.at' hT 5 (by decide) t5 (by decide) (by decide)
        have a6 := hK.at' hT 6 (by decide) t6 (by decide) (by decide)
        have a23 := hK.at' hT 23 (by decide) t23 (by decide) (by decide)
        have a24 := hK.at' hT 24 (by decide) t24 (by decide) (by decide)
        have a25 := hK.at' hT 25 (by decide) t25 (by decide) (by decide)
        have a26 := hK.at' hT 26 (by decide) t26 (by decide) (by decide)
        have a27 := hK.at' hT 27 (by decide) t27 (by decide) (by decide)
        have a29 : T2[29]'(by omega) = _ := at_of _ u29
        have a30 : T2[30]'(by omega) = _ := at_of _ u30
        have HK := hidP hK
        clear hK u29 u30
        rw [e6'] at a6
        have HS' := hidP (And.intro s1 (And.intro s2 (And.intro s3 (And.intro s4 (And.intro s5 (And.intro s6 (And.intro s7 s8)))))))
        clear s1 s2 s3 s4 s5 s6 s7 s8
        go_wp2_with fail
        obtain ⟨s1, s2, s3, s4, s5, s6, s7, s8⟩ := HS'.out
        have o2 : OnlyT B [23, 24, 32] w2 (w2.setCell ⟨B + 2, q, none⟩ (.int .i64 (p.dcA q))) := OnlyT.one s3 (by omega) (by simp) (Only.setCell (S := fun x => x = B + 2) Only.refl (p := ⟨B + 2, q, none⟩) (fun _ => rfl) _)
        have o2' : OnlyT B [23] w2 (w2.setCell ⟨B + 2, q, none⟩ (.int .i64 (p.dcA q))) := OnlyT.one s3 (by omega) (by simp) (Only.setCell (S := fun x => x = B + 2) Only.refl (p := ⟨B + 2, q, none⟩) (fun _ => rfl) _)
        first | refine ⟨trivial, k - 1, by omega, ?_⟩ | refine ⟨k - 1, by omega, ?_⟩
        rw [HI.out]
        refine ⟨q + 1, by omega, by omega, ?_, by simp [hT], cv1, by simp [hT, a29], s1.far _ _ (by show B ≠ B + 2; omega), s2.onlyT o2' (by decide), (s3.set q _).ext fun x hx => ?_, s4.onlyT o2' (by decide) (by decide), s5.onlyT o2, s6.onlyT o2, s7.onlyT o2, s8.trans o2⟩
        · repeat (refine Keeps.put ?_ _ _ (by first | exact .inr ⟨by decide, by decide⟩ | exact .inl (by decide)))
          exact HK.out
        · rw [upTo_succ q hq1]
          by_cases e : x = q
          · simp [e]
          · simp [e]
      · refine wp_cond_at false (by simp [Act.eval, hT, hlt]) (fun h => by cases h) (fun _ => ?_)
        go_wp2_with fail
        first | refine ⟨trivial, k - 1, by omega, ?_⟩ | refine ⟨k - 1, by omega, ?_⟩
        rw [HI.out]
        obtain ⟨s1, s2, s3, s4, s5, s6, s7, s8⟩ := HS.out
        refine ⟨q + 1, by omega, by omega, ?_, by simp [hT], cv1, by simp [hT, a29], s1, s2, s3.ext fun x hx => ?_, s4, s5, s6, s7, s8⟩
        · repeat (refine Keeps.put ?_ _ _ (by first | exact .inr ⟨by decide, by decide⟩ | exact .inl (by decide)))
          exact HK.out
        · rw [upTo_succ q hq1]
          by_cases e : x = q
          · have : p.dcA q = p.last + 1 := by unfold Inp.dcA; rw [← HJ.out, if_neg hlt]
            simp [e, this]
          · simp [e]
    · have hqn : q - 1 = p.n := by have := of_decide_eq_false h; omega
      clear h
      go_wp2_with fail
      have hr := HR.out
      rw [hqn] at hr
      refine HQ.out _ _ cv ?_ (by simp [hT, a29]) hr
      repeat (refine Keeps.put ?_ _ _ (by first | exact .inr ⟨by decide, by decide⟩ | exact .inl (by decide)))
      exact HK.out
  · rw [HI.out]
    obtain ⟨h1, h2, h3, hb4, hb5, hb6⟩ := H0.out
    have e : ∀ f x, upTo (1 - 1) f x = 0 := fun f x => by unfold upTo; rw [if_neg (by omega)]
    exact ⟨1, by omega, by omega, Keeps.refl, t30, .slice none 0 0, t29, h1.ext fun k hk => by rw [e]; rfl, h2.ext fun k hk => by rw [e]; rfl, h3.ext fun k hk => by rw [e]; rfl, FailO.nil _ _ _, hb4, hb5, hb6, OnlyT.refl⟩
end Go.Proofs.Ybulkcawy
