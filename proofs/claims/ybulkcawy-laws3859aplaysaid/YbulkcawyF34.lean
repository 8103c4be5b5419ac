/-
  LawS3859APlay's loop over the omissions.
-/
import Derived.Test.YbulkcawyF30
namespace Go.Proofs.Ybulkcawy
open Go.RowKit
set_option linter.unusedSimpArgs false
set_option linter.unusedVariables false
set_option maxRecDepth 100000
set_option maxHeartbeats 1000000

/-- Where the law's own table marks that q's message of round r to i is lost. -/
def markX (q r i : Nat) : Nat := q * 42 + r * 7 + i
def marks (rm q r k x : Nat) : Bool := (bitsL rm k).any fun i => decide (x = markX q r i)

theorem f3_6 (B LB n q r rm : Nat) (hn : n ≤ 6) (hq : q ≤ 6) (hr : r ≤ 5) (hrm : rm ≤ 255) (L : Nat → Bool) (w : World) (hBw : B ≤ w.heap.size) (hLB : B ≤ LB) (hL : Row w LB 27 294 (fun x => .bool (L x))) (T : Array Value) (Q : Exit → Act → World → Prop) (hT0 : T.size = 735) (t23 : T[23]?.getD undef = .int .i64 n) (t28 : T[28]?.getD undef = .pointer (some ⟨LB, 0, none⟩)) (t38 : T[38]?.getD undef = .int .i64 q) (t39 : T[39]?.getD undef = .int .i64 r) (t40 : T[40]?.getD undef = .int .u8 rm) (t41 : T[41]?.getD undef = .slice none 0 0) (t42 : T[42]?.getD undef = .int .i64 1)
    (hQ : ∀ T' w' tv, Keeps 81 734 [41, 42] T T' → T'[41]?.getD undef = tv → w'.ownsRow B 3 1 tv (bitsL rm n).length (natsV (bitsL rm n)) → Row w' LB 27 294 (fun x => .bool (L x || marks rm q r n x)) → Only (fun b => b = LB) w w' → Q .normal ⟨T', []⟩ w') : (blkOf Yba.f3 6).wp Yba.prog Q ⟨T, []⟩ w := by
  conv in (blkOf Yba.f3 6) => whnf
  refine wp_block ?_
  have HQ := hidP hQ
  have HL0 := hidP hL
  clear hQ hL
  obtain ⟨i0, hi0, hz0, hz1, hz2⟩ := info_parts info3'
  obtain ⟨I, hI⟩ : ∃ I : Nat → Array Value → World → Prop, I = (fun k T2 wr => ∃ i, 1 ≤ i ∧ i + k = n + 1 ∧ Keeps 81 734 [41, 42] T T2 ∧ T2[42]?.getD undef = .int .i64 i ∧ ∃ tv, T2[41]?.getD undef = tv ∧ wr.ownsRow B 3 1 tv (bitsL rm (i - 1)).length (natsV (bitsL rm (i - 1))) ∧ (∀ b, tv.ownBlock = some b → w.heap.size ≤ b) ∧ Row wr LB 27 294 (fun x => .bool (L x || marks rm q r (i - 1) x)) ∧ Only (fun b => b = LB) w wr) := ⟨_, rfl⟩
  have HI := hidP hI
  clear hI
  refine wp_loop_n I ?_ n _ _ ?_
  · intro k T2 wr hIk
    rw [HI.out] at hIk
    obtain ⟨i, hi1, hik, hK, u42, tv, u41, hown, hnew, hL, ho⟩ := hIk
    have hT : T2.size = 735 := hK.1.trans hT0
    have a23 := hK.at' hT 23 (by decide) t23 (by decide) (by decide)
    have a28 := hK.at' hT 28 (by decide) t28 (by decide) (by decide)
    have a38 := hK.at' hT 38 (by decide) t38 (by decide) (by decide)
    have a39 := hK.at' hT 39 (by decide) t39 (by decide) (by decide)
    have a40 := hK.at' hT 40 (by decide) t40 (by decide) (by decide)
    have a41 : T2[41]'(by omega) = _ := at_of _ u41
    have a42 : T2[42]'(by omega) = _ := at_of _ u42
    have HK := hidP hK
    clear hK u41 u42
    have HOWN := hidP hown
    have HNEW := hidP hnew
    have HLR := hidP hL
    have HO := hidP ho
    have hsz := ho.size
    have hLlt := hL.lt
    clear hown hnew hL ho
    go_upto_if 217 with fail
    refine wp_cond_at (decide (i ≤ n)) (by simp [Act.eval, hT]) (fun h => ?_) (fun h => ?_)
    · have hin : i ≤ n := of_decide_eq_true h
      clear h
      refine gen_frame (fun T2 => T2.size = 735 ∧ Keeps 81 734 [41, 42] T T2 ∧ T2[41]?.getD undef = tv ∧ T2[42]?.getD undef = .int .i64 i) ⟨by simp [hT], ?_, by simp [hT, a23, a28, a38, a39, a40, a41, a42], by simp [hT, a23, a28, a38, a39, a40, a41, a42]⟩ ?_
      · repeat (refine Keeps.put ?_ _ _ (by first | exact .inr ⟨by decide, by decide⟩ | exact .inl (by decide)))
        exact HK.out
      clear a23 a28 a38 a39 a40 a41 a42 HK hT
      clear T2
      rintro T2 ⟨hT, hK, u41, u42⟩
      have a23 := hK.at' hT 23 (by decide) t23 (by decide) (by decide)
      have a28 := hK.at' hT 28 (by decide) t28 (by decide) (by decide)
      have a38 := hK.at' hT 38 (by decide) t38 (by decide) (by decide)
      have a39 := hK.at' hT 39 (by decide) t39 (by decide) (by decide)
      have a40 := hK.at' hT 40 (by decide) t40 (by decide) (by decide)
      have a41 : T2[41]'(by omega) = _ := at_of _ u41
      have a42 : T2[42]'(by omega) = _ := at_of _ u42
      have HK := hidP hK
      clear hK u41 u42
      have hlen := bitsL_len rm (i - 1)
      have e1 : i - 1 + 1 = i := by omega
      have hbs : bitsL rm (i + 1 - 1) = bitsL rm (i - 1) ++ (if bitT rm (i - 1) then [i] else []) := by
        rw [show i + 1 - 1 = i - 1 + 1 by omega, bitsL_succ, e1]
      have HBS := hidP hbs
      clear hbs
      go_upto_if 226 with fail
      refine wp_cond_at (bitT rm (i - 1)) (by simp [Act.eval, hT, bitT]) (fun h => ?_) (fun h => ?_)
      · -- marked
        refine gen_frame (fun T2 => T2.size = 735 ∧ Keeps 81 734 [41, 42] T T2 ∧ T2[41]?.getD undef = tv ∧ T2[42]?.getD undef = .int .i64 i) ⟨by simp [hT], ?_, by simp [hT, a23, a28, a38, a39, a40, a41, a42], by simp [hT, a23, a28, a38, a39, a40, a41, a42]⟩ ?_
        · repeat (refine Keeps.put ?_ _ _ (by first | exact .inr ⟨by decide, by decide⟩ | exact .inl (by decide)))
          exact HK.out
        clear a23 a28 a38 a39 a40 a41 a42 HK hT
        clear T2
        rintro T2 ⟨hT, hK, u41, u42⟩
        have a23 := hK.at' hT 23 (by decide) t23 (by decide) (by decide)
        have a28 := hK.at' hT 28 (by decide) t28 (by decide) (by decide)
        have a38 := hK.at' hT 38 (by decide) t38 (by decide) (by decide)
        have a39 := hK.at' hT 39 (by decide) t39 (by decide) (by decide)
        have a40 := hK.at' hT 40 (by decide) t40 (by decide) (by decide)
        have a41 : T2[41]'(by omega) = _ := at_of _ u41
        have a42 : T2[42]'(by omega) = _ := at_of _ u42
        have HK := hidP hK
        clear hK u41 u42
        go_wp2_with (at_builtin; refine wpList_append_lies _ rfl _ _ 29 rfl B 3 i0 (.int .i64 0) 1 8 Yba.underlying29 hi0 hz0 hz1 hz2 rfl (by decide) tv (bitsL rm (i - 1)).length (natsV (bitsL rm (i - 1))) (by simp [Act.eval, hT]) ?c1 ⟨wr.heap.size, 0, none⟩ 1 1 [.int .i64 i] (by simp [Act.eval, hT]) rfl ?c2 (by simp [Value.oneCell']) (by decide) (by show _ ≤ 9223372036854775807; omega) (by omega) ?c3 (wr.heap.size + 1) ?c4 ?_)
        case c1 => exact HOWN.out.alloc _
        first | (case c2 => exact World.news_of_block (heap_alloc_new wr (.cells #[.int .i64 i] 3))) | skip
        case c3 => first | omega | (simp; omega)
        first | (case c4 => simp) | skip
        intro gg cp w4 hown1 hgrow hat hlt
        have hog := grown_own HOWN.out (Only.refl.alloc _) hown1 hgrow
        have hgg : w.heap.size ≤ gg := by
          rcases hat with h | h
          · exact HNEW.out gg h
          · omega
        have ho4 : Only (fun b => b = LB) w w4 := HO.out.trans' hog (fun b hb e => by have := HNEW.out b e; omega)
        have hL4 : Row w4 LB 27 294 (fun x => .bool (L x || marks rm q r (i - 1) x)) := HLR.out.only hog (fun e => by have := HNEW.out LB e; have := HL0.out.lt; omega)
        have iq1 : (0 : Int) ≤ (q : Int) := by omega
        have iq2 : (q : Int) < 7 := by omega
        have ir1 : (0 : Int) ≤ (r : Int) := by omega
        have ir2 : (r : Int) < 6 := by omega
        have ii1 : (0 : Int) ≤ (i : Int) := by omega
        have ii2 : (i : Int) < 7 := by omega
        have cL := hL4.cell (q * 42 + r * 7 + i) (by omega)
        have fL := hL4.frozen (q * 42 + r * 7 + i)
        have hLg : LB ≠ gg := by have := HL0.out.lt; omega
        have HOW1 := hidP hown1
        have HO4 := hidP ho4
        have HL4 := hidP hL4
        have HGG := hidP hgg
        clear hown1 hgrow hat hlt hog ho4 hL4 hgg
        go_wp2_with fail
        first | refine ⟨trivial, k - 1, by omega, ?_⟩ | refine ⟨k - 1, by omega, ?_⟩
        rw [HI.out]
        refine ⟨i + 1, by omega, by omega, ?_, by simp [hT], .slice (some ⟨gg, 0, none⟩) ((bitsL rm (i - 1)).length + 1) cp, by simp [hT], ?_, ?_, (HL4.out.set (q * 42 + r * 7 + i) _).ext fun x hx => ?_, Only.setCell HO4.out (fun _ => rfl) _⟩
        · repeat (refine Keeps.put ?_ _ _ (by first | exact .inr ⟨by decide, by decide⟩ | exact .inl (by decide)))
          exact HK.out
        · rw [HBS.out, h]
          simp only [if_true, List.length_append, List.length_cons, List.length_nil]
          rw [show natsV (bitsL rm (i - 1) ++ [i]) = natsV (bitsL rm (i - 1)) ++ [.int .i64 i] by simp [natsV]]
          refine own_of_block HOW1.out fun b hb => Below.heap_setCell _ _ _ _ ?_
          simp [Value.ownBlock] at hb
          show b ≠ LB
          omega
        · intro b hb
          simp [Value.ownBlock] at hb
          have := HGG.out
          omega
        · unfold marks
          rw [HBS.out, h, List.any_append]
          by_cases e : x = q * 42 + r * 7 + i
          · simp [e, markX]
          · simp [e, markX]
      · -- not
        refine gen_frame (fun T2 => T2.size = 735 ∧ Keeps 81 734 [41, 42] T T2 ∧ T2[41]?.getD undef = tv ∧ T2[42]?.getD undef = .int .i64 i) ⟨by simp [hT], ?_, by simp [hT, a23, a28, a38, a39, a40, a41, a42], by simp [hT, a23, a28, a38, a39, a40, a41, a42]⟩ ?_
        · repeat (refine Keeps.put ?_ _ _ (by first | exact .inr ⟨by decide, by decide⟩ | exact .inl (by decide)))
          exact HK.out
        clear a23 a28 a38 a39 a40 a41 a42 HK hT
        clear T2
        rintro T2 ⟨hT, hK, u41, u42⟩
        have a23 := hK.at' hT 23 (by decide) t23 (by decide) (by decide)
        have a28 := hK.at' hT 28 (by decide) t28 (by decide) (by decide)
        have a38 := hK.at' hT 38 (by decide) t38 (by decide) (by decide)
        have a39 := hK.at' hT 39 (by decide) t39 (by decide) (by decide)
        have a40 := hK.at' hT 40 (by decide) t40 (by decide) (by decide)
        have a41 : T2[41]'(by omega) = _ := at_of _ u41
        have a42 : T2[42]'(by omega) = _ := at_of _ u42
        have HK := hidP hK
        clear hK u41 u42
        go_wp2_with fail
        first | refine ⟨trivial, k - 1, by omega, ?_⟩ | refine ⟨k - 1, by omega, ?_⟩
        rw [HI.out]
        refine ⟨i + 1, by omega, by omega, ?_, by simp [hT], tv, by simp [hT, a41], ?_, HNEW.out, ?_, HO.out⟩
        · repeat (refine Keeps.put ?_ _ _ (by first | exact .inr ⟨by decide, by decide⟩ | exact .inl (by decide)))
          exact HK.out
        · rw [HBS.out, h]
          simpa using HOWN.out
        · have e2 : bitsL rm (i + 1 - 1) = bitsL rm (i - 1) := by rw [HBS.out, h]; simp
          unfold marks
          rw [e2]
          exact HLR.out
    · have hin : i - 1 = n := by have := of_decide_eq_false h; omega
      clear h
      go_wp2_with fail
      have hown := HOWN.out
      have hL := HLR.out
      rw [hin] at hown hL
      refine HQ.out _ _ tv ?_ (by simp [hT, a41]) hown hL HO.out
      repeat (refine Keeps.put ?_ _ _ (by first | exact .inr ⟨by decide, by decide⟩ | exact .inl (by decide)))
      exact HK.out
  · rw [HI.out]
    exact ⟨1, by omega, by omega, Keeps.refl, t42, .slice none 0 0, t41, ⟨rfl, .inl ⟨rfl, rfl⟩⟩, (fun b h => by simp [Value.ownBlock] at h), HL0.out.ext fun x hx => by simp [marks, bitsL], Only.refl⟩

def lostT (p : Inp) (k x : Nat) : Bool := (p.olA k).any fun o => o.xs.any fun i => decide (x = markX o.q o.r i)
theorem lostT_succ (p : Inp) (k x : Nat) : lostT p (k + 1) x = (lostT p k x || marks (p.omM k) (1 + p.fq k % p.n) (p.omR k) p.n x) := by
  unfold lostT
  rw [Inp.olA_succ, List.any_append]
  simp [Inp.omA, marks]

theorem info36 : (Yba.prog.info? 36).map (fun i => (i.zero, i.size, i.bytes)) = some (some (.agg #[.int .i64 0, .int .i64 0, .slice none 0 0]), 3, 40) := by kernel_rfl

theorem f3_4 (p : Inp) (hp : p.ok) (B : Nat) (v7 v8 v9 : Value) (w : World) (h1 : Row w (B + 3) 27 294 (fun _ => .bool false)) (hb7 : BytesAt w B v7 p.lq p.fq) (hb8 : BytesAt w B v8 p.lo p.fo) (hb9 : BytesAt w B v9 p.lm p.fm)
    (T : Array Value) (Q : Exit → Act → World → Prop) (hT0 : T.size = 735) (t7 : T[7]?.getD undef = v7) (t8 : T[8]?.getD undef = v8) (t9 : T[9]?.getD undef = v9) (t23 : T[23]?.getD undef = .int .i64 p.n) (t24 : T[24]?.getD undef = .int .i64 p.last) (t28 : T[28]?.getD undef = .pointer (some ⟨B + 3, 0, none⟩)) (t36 : T[36]?.getD undef = .slice none 0 0) (t37 : T[37]?.getD undef = .int .i64 0)
    (hQ : ∀ T' w' ov, Keeps 81 734 [36, 37, 38, 39, 40, 41, 42] T T' → T'[36]?.getD undef = ov → Row w' (B + 3) 27 294 (fun x => .bool (lostT p (p.omN) x)) ∧ FailO w' B 36 ov (p.olA (p.omN)) ∧ BytesAt w' B v7 p.lq p.fq ∧ BytesAt w' B v8 p.lo p.fo ∧ BytesAt w' B v9 p.lm p.fm ∧ OnlyT B [27, 36] w w' → Q .normal ⟨T', []⟩ w') : (blkOf Yba.f3 4).wp Yba.prog Q ⟨T, []⟩ w := by
  conv in (blkOf Yba.f3 4) => whnf
  refine wp_block ?_
  have HQ := hidP hQ
  have HP := hidP hp
  have hn6 := hp.n6
  have hn1 := hp.n1
  have hl5 := hp.l5
  obtain ⟨ic, hic, hzc0, hzc1, hzc2⟩ := info_parts info36
  obtain ⟨I, hI⟩ : ∃ I : Nat → Array Value → World → Prop, I = (fun k T2 wr => ∃ k0, k0 + k = 64 ∧ k0 ≤ p.omN ∧ Keeps 81 734 [36, 37, 38, 39, 40, 41, 42] T T2 ∧ T2[37]?.getD undef = .int .i64 k0 ∧ ∃ ov, T2[36]?.getD undef = ov ∧ Row wr (B + 3) 27 294 (fun x => .bool (lostT p (k0) x)) ∧ FailO wr B 36 ov (p.olA (k0)) ∧ BytesAt wr B v7 p.lq p.fq ∧ BytesAt wr B v8 p.lo p.fo ∧ BytesAt wr B v9 p.lm p.fm ∧ OnlyT B [27, 36] w wr) := ⟨_, rfl⟩
  have HI := hidP hI
  have H0 := hidP (And.intro h1 (And.intro hb7 (And.intro hb8 hb9)))
  clear hQ hp hI h1 hb7 hb8 hb9
  refine wp_loop_n I ?_ 64 _ _ ?_
  · intro k T2 wr hIk
    rw [HI.out] at hIk
    obtain ⟨k0, hkk, hle, hK, u37, ov, u36, hrows⟩ := hIk
    have hT : T2.size = 735 := hK.1.trans hT0
    have s36 := u36
    have s37 := u37
    have s7 := hK.get t7 (by decide) (by decide)
    have s24 := hK.get t24 (by decide) (by decide)
    have a7 := hK.at' hT 7 (by decide) t7 (by decide) (by decide)
    have a8 := hK.at' hT 8 (by decide) t8 (by decide) (by decide)
    have a9 := hK.at' hT 9 (by decide) t9 (by decide) (by decide)
    have a23 := hK.at' hT 23 (by decide) t23 (by decide) (by decide)
    have a24 := hK.at' hT 24 (by decide) t24 (by decide) (by decide)
    have a28 := hK.at' hT 28 (by decide) t28 (by decide) (by decide)
    have a36 : T2[36]'(by omega) = _ := at_of _ u36
    have a37 : T2[37]'(by omega) = _ := at_of _ u37
    have HK := hidP hK
    clear hK u36 u37
    have HR := hidP hrows
    have HLE := hidP hle
    clear hrows hle
    obtain ⟨m7, c7, e7⟩ := HR.out.2.2.1.form
    rw [e7] at s7 a7
    go_upto_region 34 with fail
    by_cases hlq : k0 < p.lq
    · by_cases h64 : k0 < 64
      · by_cases hla : 0 < p.last
        · have g1 : (k0 : Int) < (p.lq : Int) := by omega
          have g2 : (k0 : Int) < 64 := by omega
          have g3 : (0 : Int) < (p.last : Int) := by omega
          have g4 := hla
          refine region_plain _ 735 hT [.int .i64 k0, .slice m7 p.lq c7, .int .i64 p.lq, .bool true, .bool true, .int .i64 k0, .bool true, .bool true, .bool true, .int .i64 p.last, .bool true, .bool true] wr (by decide) (by decide) ?_ ?_
          · intro i hi U hU hK hprev
            have hi' : i < 12 := hi
            rcases (by omega : i = 0 ∨ i = 1 ∨ i = 2 ∨ i = 3 ∨ i = 4 ∨ i = 5 ∨ i = 6 ∨ i = 7 ∨ i = 8 ∨ i = 9 ∨ i = 10 ∨ i = 11) with rfl | rfl | rfl | rfl | rfl | rfl | rfl | rfl | rfl | rfl | rfl | rfl
            · have hx37 : U[37]?.getD undef = .int .i64 k0 := kept_of hK 37 (by decide) (by assumption)
              refine .inl ⟨want_none rfl, ?_⟩
              refine step_of_run (v := .int .i64 k0) (w' := _) ?_ ⟨rfl, _, rfl, (fun h => by cases h), rfl⟩
              simp [execOp, go_sem, hx37, g1, g2, g3, g4]
            · have hx7 : U[7]?.getD undef = .slice m7 p.lq c7 := kept_of hK 7 (by decide) (by assumption)
              refine .inl ⟨want_none rfl, ?_⟩
              refine step_of_run (v := .slice m7 p.lq c7) (w' := _) ?_ ⟨rfl, _, rfl, (fun h => by cases h), rfl⟩
              simp [execOp, go_sem, hx7, g1, g2, g3, g4]
            · have d1 : U[174]?.getD undef = .slice m7 p.lq c7 := slot_of (hprev 1 (by decide)) rfl
              refine .inl ⟨want_none rfl, ?_⟩
              refine step_of_run (v := .int .i64 p.lq) (w' := _) ?_ ⟨rfl, _, rfl, (fun h => by cases h), rfl⟩
              simp [execOp, go_sem, d1, g1, g2, g3, g4]
            · have d0 : U[173]?.getD undef = .int .i64 k0 := slot_of (hprev 0 (by decide)) rfl
              have d2 : U[175]?.getD undef = .int .i64 p.lq := slot_of (hprev 2 (by decide)) rfl
              refine .inl ⟨want_none rfl, ?_⟩
              refine step_of_run (v := .bool true) (w' := _) ?_ ⟨rfl, _, rfl, (fun h => by cases h), rfl⟩
              simp [execOp, go_sem, d0, d2, g1, g2, g3, g4]
            · have d3 : U[176]?.getD undef = .bool true := slot_of (hprev 3 (by decide)) rfl
              refine .inl ⟨want_none rfl, ?_⟩
              refine step_of_run (v := .bool true) (w' := _) ?_ ⟨rfl, _, rfl, (fun h => by cases h), rfl⟩
              simp [execOp, go_sem, d3, g1, g2, g3, g4]
            · have hx37 : U[37]?.getD undef = .int .i64 k0 := kept_of hK 37 (by decide) (by assumption)
              refine .inl ⟨want_of (d := 177) rfl rfl (by omega) (slot_of (hprev 4 (by decide)) rfl), ?_⟩
              refine step_of_run (v := .int .i64 k0) (w' := _) ?_ ⟨rfl, _, rfl, (fun h => by cases h), rfl⟩
              simp [execOp, go_sem, hx37, g1, g2, g3, g4]
            · have d5 : U[178]?.getD undef = .int .i64 k0 := slot_of (hprev 5 (by decide)) rfl
              refine .inl ⟨want_of (d := 177) rfl rfl (by omega) (slot_of (hprev 4 (by decide)) rfl), ?_⟩
              refine step_of_run (v := .bool true) (w' := _) ?_ ⟨rfl, _, rfl, (fun h => by cases h), rfl⟩
              simp [execOp, go_sem, d5, g1, g2, g3, g4]
            · have d4 : U[177]?.getD undef = .bool true := slot_of (hprev 4 (by decide)) rfl
              have d6 : U[179]?.getD undef = .bool true := slot_of (hprev 6 (by decide)) rfl
              refine .inl ⟨want_none rfl, ?_⟩
              refine step_of_run (v := .bool true) (w' := _) ?_ ⟨rfl, _, rfl, (fun h => by cases h), rfl⟩
              simp [execOp, go_sem, d4, d6, g1, g2, g3, g4]
            · have d7 : U[180]?.getD undef = .bool true := slot_of (hprev 7 (by decide)) rfl
              refine .inl ⟨want_none rfl, ?_⟩
              refine step_of_run (v := .bool true) (w' := _) ?_ ⟨rfl, _, rfl, (fun h => by cases h), rfl⟩
              simp [execOp, go_sem, d7, g1, g2, g3, g4]
            · have hx24 : U[24]?.getD undef = .int .i64 p.last := kept_of hK 24 (by decide) (by assumption)
              refine .inl ⟨want_of (d := 181) rfl rfl (by omega) (slot_of (hprev 8 (by decide)) rfl), ?_⟩
              refine step_of_run (v := .int .i64 p.last) (w' := _) ?_ ⟨rfl, _, rfl, (fun h => by cases h), rfl⟩
              simp [execOp, go_sem, hx24, g1, g2, g3, g4]
            · have d9 : U[182]?.getD undef = .int .i64 p.last := slot_of (hprev 9 (by decide)) rfl
              refine .inl ⟨want_of (d := 181) rfl rfl (by omega) (slot_of (hprev 8 (by decide)) rfl), ?_⟩
              refine step_of_run (v := .bool true) (w' := _) ?_ ⟨rfl, _, rfl, (fun h => by cases h), rfl⟩
              simp [execOp, go_sem, d9, g1, g2, g3, g4]
            · have d8 : U[181]?.getD undef = .bool true := slot_of (hprev 8 (by decide)) rfl
              have d10 : U[183]?.getD undef = .bool true := slot_of (hprev 10 (by decide)) rfl
              refine .inl ⟨want_none rfl, ?_⟩
              refine step_of_run (v := .bool true) (w' := _) ?_ ⟨rfl, _, rfl, (fun h => by cases h), rfl⟩
              simp [execOp, go_sem, d8, d10, g1, g2, g3, g4]
          · intro U hU hKU hall
            have b184 : U[184]?.getD undef = .bool true := slot_of (hall 11 (by decide)) rfl
            have hK2 := Keeps.trans HK.out (Kept.keeps (lo := 81) (hi := 734) (vs := [36, 37, 38, 39, 40, 41, 42]) hKU (hU.trans hT.symm) (by decide))
            have b36 : U[36]'(by omega) = ov := at_of _ (kept_of hKU 36 (by decide) s36)
            have b37 : U[37]'(by omega) = .int .i64 k0 := at_of _ (kept_of hKU 37 (by decide) s37)
            have HK2 := hidP hK2
            clear hall hKU hK2 a7 a8 a9 a23 a24 a28 a36 a37 s36 s37 s7 s24 HK
            go_upto_if 184 with fail
            refine wp_cond_at true (by simpa [Act.eval] using b184) (fun _ => ?_) (fun h => by cases h)
            refine gen_frame (fun T2 => T2.size = 735 ∧ Keeps 81 734 [36, 37, 38, 39, 40, 41, 42] T T2 ∧ T2[36]?.getD undef = ov ∧ T2[37]?.getD undef = .int .i64 k0) ⟨hU, HK2.out, by simp [hU, b36], by simp [hU, b37]⟩ ?_
            clear b184 b36 b37 HK2 hU hT
            clear U T2
            rintro T2 ⟨hT, hK, u36, u37⟩
            have a7 := hK.at' hT 7 (by decide) t7 (by decide) (by decide)
            have a8 := hK.at' hT 8 (by decide) t8 (by decide) (by decide)
            have a9 := hK.at' hT 9 (by decide) t9 (by decide) (by decide)
            have a23 := hK.at' hT 23 (by decide) t23 (by decide) (by decide)
            have a24 := hK.at' hT 24 (by decide) t24 (by decide) (by decide)
            have a28 := hK.at' hT 28 (by decide) t28 (by decide) (by decide)
            have a36 : T2[36]'(by omega) = _ := at_of _ u36
            have a37 : T2[37]'(by omega) = _ := at_of _ u37
            have HK := hidP hK
            clear hK u36 u37
            -- its process
            obtain ⟨bb, off, cap, e7', cB⟩ := HR.out.2.2.1.at hlq
            rw [e7'] at a7
            have hf := HP.out.bq k0
            obtain ⟨q, hq⟩ : ∃ q, q = 1 + p.fq k0 % p.n := ⟨_, rfl⟩
            have hqb : 1 ≤ q ∧ q ≤ p.n := by have := Nat.mod_lt (p.fq k0) (show 0 < p.n by omega); omega
            obtain ⟨x, hx⟩ : ∃ x, x = p.fq k0 % p.n := ⟨_, rfl⟩
            have hmod : ((p.fq k0 : Nat) : Int) % (p.n : Int) = (x : Int) := by rw [hx]; push_cast; rfl
            have hmodb : x < p.n := by rw [hx]; exact Nat.mod_lt _ (by omega)
            have hq1 : (1 : Int) + (x : Int) = (q : Int) := by omega
            clear hx
            have hn0 : ¬ (p.n : Int) = 0 := by omega
            have hn0' : ¬ p.n = 0 := by omega
            have i0 : (0 : Int) ≤ (k0 : Int) := by omega
            have HQE := hidP hq
            clear hq
            obtain ⟨m8, c8, e8⟩ := HR.out.2.2.2.1.form
            rw [e8] at a8
            go_upto_if 198 with fail
            rename_i K198 hK198
            have HK198 := hidP hK198
            clear hK198
            suffices merge : ∀ T2, T2.size = 735 ∧ Keeps 81 734 [36, 37, 38, 39, 40, 41, 42] T T2 ∧ T2[36]?.getD undef = ov ∧ T2[37]?.getD undef = .int .i64 k0 ∧ T2[38]?.getD undef = .int .i64 q ∧ T2[39]?.getD undef = .int .i64 (p.omR k0) → K198 ⟨T2, []⟩ wr by
              have MERGE := hidP merge
              clear merge
              by_cases hlt : k0 < p.lo
              · obtain ⟨bb2, off2, cap2, e8', cB2⟩ := HR.out.2.2.2.1.at hlt
                have hE : Value.slice m8 p.lo c8 = .slice (some ⟨bb2, off2, none⟩) p.lo cap2 := e8.symm.trans e8'
                rw [hE] at a8
                have hjl : (k0 : Int) < (p.lo : Int) := by omega
                have hf2 := HP.out.bo k0
                obtain ⟨y, hy⟩ : ∃ y, y = p.fo k0 % p.last := ⟨_, rfl⟩
                have hmod2 : ((p.fo k0 : Nat) : Int) % (p.last : Int) = (y : Int) := by rw [hy]; push_cast; rfl
                have hyb : y < p.last := by rw [hy]; exact Nat.mod_lt _ hla
                have hl0 : ¬ (p.last : Int) = 0 := by omega
                have hl0' : ¬ p.last = 0 := by omega
                have hor : (1 : Int) + (y : Int) = ((p.omR k0 : Nat) : Int) := by
                  unfold Inp.omR
                  rw [if_pos hlt, ← hy]
                  push_cast
                  rfl
                clear hy
                refine wp_cond_at true (by simp [Act.eval, hT, hlt]) (fun _ => ?_) (fun h => by cases h)
                refine gen_frame (fun T2 => T2.size = 735 ∧ Keeps 81 734 [36, 37, 38, 39, 40, 41, 42] T T2 ∧ T2[36]?.getD undef = ov ∧ T2[37]?.getD undef = .int .i64 k0 ∧ T2[38]?.getD undef = .int .i64 q) ⟨by simp [hT], ?_, by simp [hT, a36], by simp [hT, a37], by simp [hT]⟩ ?_
                · repeat (refine Keeps.put ?_ _ _ (by first | exact .inr ⟨by decide, by decide⟩ | exact .inl (by decide)))
                  exact HK.out
                clear a7 a8 a9 a23 a24 a28 a36 a37 HK hT
                clear T2
                rintro T2 ⟨hT, hK, u36, u37, u38⟩
                have a7 := hK.at' hT 7 (by decide) t7 (by decide) (by decide)
                have a8 := hK.at' hT 8 (by decide) t8 (by decide) (by decide)
                have a9 := hK.at' hT 9 (by decide) t9 (by decide) (by decide)
                have a23 := hK.at' hT 23 (by decide) t23 (by decide) (by decide)
                have a24 := hK.at' hT 24 (by decide) t24 (by decide) (by decide)
                have a28 := hK.at' hT 28 (by decide) t28 (by decide) (by decide)
                have a36 : T2[36]'(by omega) = _ := at_of _ u36
                have a37 : T2[37]'(by omega) = _ := at_of _ u37
                have a38 : T2[38]'(by omega) = _ := at_of _ u38
                have HK := hidP hK
                clear hK u36 u37 u38
                rw [e8'] at a8
                go_wp2_with fail
                refine MERGE.out _ ⟨by simp [hT], ?_, by simp [hT, a36], by simp [hT, a37], by simp [hT, a38], by simp [hT]⟩
                repeat (refine Keeps.put ?_ _ _ (by first | exact .inr ⟨by decide, by decide⟩ | exact .inl (by decide)))
                exact HK.out
              · have hor : p.omR k0 = 1 := by unfold Inp.omR; rw [if_neg hlt]
                refine wp_cond_at false (by simp [Act.eval, hT, hlt]) (fun h => by cases h) (fun _ => ?_)
                go_wp2_with fail
                refine MERGE.out _ ⟨by simp [hT], ?_, by simp [hT, a36], by simp [hT, a37], by simp [hT], by simp [hT, hor]⟩
                repeat (refine Keeps.put ?_ _ _ (by first | exact .inr ⟨by decide, by decide⟩ | exact .inl (by decide)))
                exact HK.out
            clear a7 a8 a9 a23 a24 a28 a36 a37 HK hT
            clear T2
            rintro T2 ⟨hT, hK, u36, u37, u38, u39⟩
            have a7 := hK.at' hT 7 (by decide) t7 (by decide) (by decide)
            have a8 := hK.at' hT 8 (by decide) t8 (by decide) (by decide)
            have a9 := hK.at' hT 9 (by decide) t9 (by decide) (by decide)
            have a23 := hK.at' hT 23 (by decide) t23 (by decide) (by decide)
            have a24 := hK.at' hT 24 (by decide) t24 (by decide) (by decide)
            have a28 := hK.at' hT 28 (by decide) t28 (by decide) (by decide)
            have a36 : T2[36]'(by omega) = _ := at_of _ u36
            have a37 : T2[37]'(by omega) = _ := at_of _ u37
            have a38 : T2[38]'(by omega) = _ := at_of _ u38
            have a39 : T2[39]'(by omega) = _ := at_of _ u39
            have HK := hidP hK
            clear hK u36 u37 u38 u39
            refine HK198.out _ _ ?_
            obtain ⟨m9, c9, e9⟩ := HR.out.2.2.2.2.1.form
            rw [e9] at a9
            go_upto_if 210 with fail
            rename_i K210 hK210
            have HK210 := hidP hK210
            clear hK210
            suffices merge : ∀ T2, T2.size = 735 ∧ Keeps 81 734 [36, 37, 38, 39, 40, 41, 42] T T2 ∧ T2[36]?.getD undef = ov ∧ T2[37]?.getD undef = .int .i64 k0 ∧ T2[38]?.getD undef = .int .i64 q ∧ T2[39]?.getD undef = .int .i64 (p.omR k0) ∧ T2[40]?.getD undef = .int .u8 (p.omM k0) → K210 ⟨T2, []⟩ wr by
              have MERGE := hidP merge
              clear merge
              by_cases hlt : k0 < p.lm
              · obtain ⟨bb2, off2, cap2, e9', cB2⟩ := HR.out.2.2.2.2.1.at hlt
                have hE : Value.slice m9 p.lm c9 = .slice (some ⟨bb2, off2, none⟩) p.lm cap2 := e9.symm.trans e9'
                rw [hE] at a9
                have hjl : (k0 : Int) < (p.lm : Int) := by omega
                have hor : p.fm k0 = p.omM k0 := by unfold Inp.omM; rw [if_pos hlt]
                refine wp_cond_at true (by simp [Act.eval, hT, hlt]) (fun _ => ?_) (fun h => by cases h)
                go_wp2_with fail
                refine MERGE.out _ ⟨by simp [hT], ?_, by simp [hT, a36], by simp [hT, a37], by simp [hT, a38], by simp [hT, a39], by simp [hT, hor]⟩
                repeat (refine Keeps.put ?_ _ _ (by first | exact .inr ⟨by decide, by decide⟩ | exact .inl (by decide)))
                exact HK.out
              · have hor : p.omM k0 = 0 := by unfold Inp.omM; rw [if_neg hlt]
                refine wp_cond_at false (by simp [Act.eval, hT, hlt]) (fun h => by cases h) (fun _ => ?_)
                go_wp2_with fail
                refine MERGE.out _ ⟨by simp [hT], ?_, by simp [hT, a36], by simp [hT, a37], by simp [hT, a38], by simp [hT, a39], by simp [hT, hor]⟩
                repeat (refine Keeps.put ?_ _ _ (by first | exact .inr ⟨by decide, by decide⟩ | exact .inl (by decide)))
                exact HK.out
            clear a7 a8 a9 a23 a24 a28 a36 a37 a38 a39 HK hT
            clear T2
            rintro T2 ⟨hT, hK, u36, u37, u38, u39, u40⟩
            have a7 := hK.at' hT 7 (by decide) t7 (by decide) (by decide)
            have a8 := hK.at' hT 8 (by decide) t8 (by decide) (by decide)
            have a9 := hK.at' hT 9 (by decide) t9 (by decide) (by decide)
            have a23 := hK.at' hT 23 (by decide) t23 (by decide) (by decide)
            have a24 := hK.at' hT 24 (by decide) t24 (by decide) (by decide)
            have a28 := hK.at' hT 28 (by decide) t28 (by decide) (by decide)
            have a36 : T2[36]'(by omega) = _ := at_of _ u36
            have a37 : T2[37]'(by omega) = _ := at_of _ u37
            have a38 : T2[38]'(by omega) = _ := at_of _ u38
            have a39 : T2[39]'(by omega) = _ := at_of _ u39
            have a40 : T2[40]'(by omega) = _ := at_of _ u40
            have HK := hidP hK
            clear hK u36 u37 u38 u39 u40
            refine HK210.out _ _ ?_
            have horb : p.omR k0 ≤ 5 := by
              unfold Inp.omR
              split
              · have := Nat.mod_lt (p.fo k0) hla
                omega
              · omega
            have homb : p.omM k0 ≤ 255 := by
              unfold Inp.omM
              split
              · exact HP.out.bm _
              · omega
            have hBw : B ≤ wr.heap.size := HR.out.2.2.1.2.1
            clear cB e7'
            go_upto_block 6 with fail
            have hks : ∀ x3 x4, Keeps 81 734 [36, 37, 38, 39, 40, 41, 42] T ((T2.setIfInBounds 41 x3).setIfInBounds 42 x4) := fun x3 x4 => by
              repeat (refine Keeps.put ?_ _ _ (by first | exact .inr ⟨by decide, by decide⟩ | exact .inl (by decide)))
              exact HK.out
            refine f3_6 B (B + 3) p.n q (p.omR k0) (p.omM k0) hn6 (by omega) horb homb _ wr hBw (by omega) HR.out.1 _ _ (by simp [hT]) (by simp [hT, a23]) (by simp [hT, a28]) (by simp [hT, a38]) (by simp [hT, a39]) (by simp [hT, a40]) (by simp [hT]) (by simp [hT]) ?_
            intro T3 w1 tv hK3 e41 hown hL1 hon
            have hK4 : Keeps 81 734 [36, 37, 38, 39, 40, 41, 42] T T3 := Keeps.trans (hks _ _) (hK3.mono (fun i hi => by simp at hi; rcases hi with rfl | rfl <;> exact .inl (by decide)) (by decide) (by decide))
            have hT3 : T3.size = 735 := hK4.1.trans hT0
            have b36 : T3[36]'(by omega) = ov := at_of _ (hK3.get (by simp [hT, a36]) (by decide) (by decide))
            have b37 : T3[37]'(by omega) = .int .i64 k0 := at_of _ (hK3.get (by simp [hT, a37]) (by decide) (by decide))
            have b38 : T3[38]'(by omega) = .int .i64 q := at_of _ (hK3.get (by simp [hT, a38]) (by decide) (by decide))
            have b39 : T3[39]'(by omega) = .int .i64 (p.omR k0) := at_of _ (hK3.get (by simp [hT, a39]) (by decide) (by decide))
            obtain ⟨ta, tl, tc, htv⟩ : ∃ ta tl tc, tv = .slice ta tl tc := by
              rcases hown.2 with ⟨h, _⟩ | ⟨g, cp, cur, h, _⟩
              · exact ⟨none, 0, 0, h⟩
              · exact ⟨_, _, _, h⟩
            subst htv
            have b41 : T3[41]'(by omega) = .slice ta tl tc := at_of _ e41
            obtain ⟨r1, r4, r5, r6, r7, r8⟩ := HR.out
            have hot : OnlyT B [27] wr w1 := OnlyT.one r1 (by omega) (by simp) hon
            have HOW := hidP hown
            obtain ⟨tvs, f1, f2, f3⟩ := r4
            have HF2 := hidP (own_onlyT f2 hot (by decide))
            have HF3 : Hid (∀ k (hk : k < (p.olA k0).length) (hk' : k < tvs.length), w1.ownsRow B 3 1 tvs[k] (p.olA k0)[k].xs.length (natsV (p.olA k0)[k].xs)) := hidP (fun k hk hk' => own_onlyT (f3 k hk hk') hot (by decide))
            have H1 := hidP (And.intro hL1 (And.intro (r5.onlyT hot) (And.intro (r6.onlyT hot) (And.intro (r7.onlyT hot) (r8.trans (hot.mono (by simp)))))))
            have hcl : (p.olA k0).length ≤ 64 := by simp [Inp.olA]; omega
            have hsz1 := hon.size
            have HK4 := hidP hK4
            have hfl := failC_len (p.olA k0) tvs f1
            clear r1 r5 r6 r7 r8 f2 f3 hK3 hK4 e41 hown hon hot hks hL1 a7 a8 a9 a23 a24 a28 a36 a37 a38 a39 a40 HK
            go_wp2_with (at_builtin; refine wpList_append_lies _ rfl _ _ 34 rfl B 36 ic (.agg #[.int .i64 0, .int .i64 0, .slice none 0 0]) 3 40 (by kernel_rfl) hic hzc0 hzc1 hzc2 rfl (by decide) ov (p.olA k0).length (failC (p.olA k0) tvs) (by simp [Act.eval, hT3]) ?c1 ⟨w1.heap.size, 0, none⟩ 1 1 [.int .i64 q, .int .i64 (p.omR k0), .slice ta tl tc] (by simp [Act.eval, hT3]) rfl ?c2 (by simp [Value.oneCell']) (by decide) (by show _ ≤ 9223372036854775807; omega) (by omega) ?c3 (w1.heap.size + 1) ?c4 ?_)
            case c1 => exact HF2.out.alloc _
            first | (case c2 => exact World.news_of_block (heap_alloc_new w1 (.cells #[.int .i64 q, .int .i64 (p.omR k0), .slice ta tl tc] 36))) | skip
            case c3 => first | omega | (simp; omega)
            first | (case c4 => simp) | skip
            intro gg cp w2 hown1 hgrow hat hlt
            have hog := grown_own HF2.out (Only.refl.alloc _) hown1 hgrow
            have hot2 : OnlyT B [36] w1 w2 := OnlyT.own HF2.out (by simp) hog
            have hfo : FailO w2 B 36 (.slice (some ⟨gg, 0, none⟩) ((p.olA k0).length + 1) cp) (p.olA (k0 + 1)) := by
              have e : p.olA (k0 + 1) = p.olA k0 ++ [⟨q, p.omR k0, bitsL (p.omM k0) p.n⟩] := by
                rw [Inp.olA_succ, HQE.out]
                rfl
              rw [e]
              refine ⟨tvs ++ [.slice ta tl tc], by simp [f1], ?_, fun k hk hk' => ?_⟩
              · rw [failC_snoc _ _ f1]
                simpa using hown1
              · by_cases h : k < (p.olA k0).length
                · have h' : k < tvs.length := by omega
                  rw [List.getElem_append_left h', List.getElem_append_left h]
                  exact own_onlyT (HF3.out k h h') hot2 (by decide)
                · have h2 : k = (p.olA k0).length := by simp at hk; omega
                  have h3 : k = tvs.length := by omega
                  rw [List.getElem_append_right (by omega), List.getElem_append_right (by omega)]
                  simp only [h2, Nat.sub_self, f1, List.getElem_cons_zero]
                  exact own_onlyT HOW.out hot2 (by decide)
            have HFO := hidP hfo
            obtain ⟨r1, r5, r6, r7, r8⟩ := H1.out
            have H2 := hidP (And.intro (r1.onlyT hot2 (by decide)) (And.intro (r5.onlyT hot2) (And.intro (r6.onlyT hot2) (And.intro (r7.onlyT hot2) (r8.trans (hot2.mono (by simp)))))))
            clear r1 r5 r6 r7 r8 hown1 hgrow hat hlt hog hot2 hfo
            go_wp2_with fail
            first | refine ⟨trivial, k - 1, by omega, ?_⟩ | refine ⟨k - 1, by omega, ?_⟩
            rw [HI.out]
            obtain ⟨r1, r5, r6, r7, r8⟩ := H2.out
            refine ⟨k0 + 1, by omega, ?_, ?_, by simp [hT3], _, by simp [hT3], r1.ext fun x hx => ?_, HFO.out, r5, r6, r7, r8⟩
            · unfold Inp.omN
              rw [if_pos hla]
              split <;> omega
            · repeat (refine Keeps.put ?_ _ _ (by first | exact .inr ⟨by decide, by decide⟩ | exact .inl (by decide)))
              exact HK4.out
            · rw [lostT_succ, HQE.out]
        · have g1 : (k0 : Int) < (p.lq : Int) := by omega
          have g2 : (k0 : Int) < 64 := by omega
          have g3 : ¬ (0 : Int) < (p.last : Int) := by omega
          have g4 := hla
          refine region_plain _ 735 hT [.int .i64 k0, .slice m7 p.lq c7, .int .i64 p.lq, .bool true, .bool true, .int .i64 k0, .bool true, .bool true, .bool true, .int .i64 p.last, .bool false, .bool false] wr (by decide) (by decide) ?_ ?_
          · intro i hi U hU hK hprev
            have hi' : i < 12 := hi
            rcases (by omega : i = 0 ∨ i = 1 ∨ i = 2 ∨ i = 3 ∨ i = 4 ∨ i = 5 ∨ i = 6 ∨ i = 7 ∨ i = 8 ∨ i = 9 ∨ i = 10 ∨ i = 11) with rfl | rfl | rfl | rfl | rfl | rfl | rfl | rfl | rfl | rfl | rfl | rfl
            · have hx37 : U[37]?.getD undef = .int .i64 k0 := kept_of hK 37 (by decide) (by assumption)
              refine .inl ⟨want_none rfl, ?_⟩
              refine step_of_run (v := .int .i64 k0) (w' := _) ?_ ⟨rfl, _, rfl, (fun h => by cases h), rfl⟩
              simp [execOp, go_sem, hx37, g1, g2, g3, g4]
            · have hx7 : U[7]?.getD undef = .slice m7 p.lq c7 := kept_of hK 7 (by decide) (by assumption)
              refine .inl ⟨want_none rfl, ?_⟩
              refine step_of_run (v := .slice m7 p.lq c7) (w' := _) ?_ ⟨rfl, _, rfl, (fun h => by cases h), rfl⟩
              simp [execOp, go_sem, hx7, g1, g2, g3, g4]
            · have d1 : U[174]?.getD undef = .slice m7 p.lq c7 := slot_of (hprev 1 (by decide)) rfl
              refine .inl ⟨want_none rfl, ?_⟩
              refine step_of_run (v := .int .i64 p.lq) (w' := _) ?_ ⟨rfl, _, rfl, (fun h => by cases h), rfl⟩
              simp [execOp, go_sem, d1, g1, g2, g3, g4]
            · have d0 : U[173]?.getD undef = .int .i64 k0 := slot_of (hprev 0 (by decide)) rfl
              have d2 : U[175]?.getD undef = .int .i64 p.lq := slot_of (hprev 2 (by decide)) rfl
              refine .inl ⟨want_none rfl, ?_⟩
              refine step_of_run (v := .bool true) (w' := _) ?_ ⟨rfl, _, rfl, (fun h => by cases h), rfl⟩
              simp [execOp, go_sem, d0, d2, g1, g2, g3, g4]
            · have d3 : U[176]?.getD undef = .bool true := slot_of (hprev 3 (by decide)) rfl
              refine .inl ⟨want_none rfl, ?_⟩
              refine step_of_run (v := .bool true) (w' := _) ?_ ⟨rfl, _, rfl, (fun h => by cases h), rfl⟩
              simp [execOp, go_sem, d3, g1, g2, g3, g4]
            · have hx37 : U[37]?.getD undef = .int .i64 k0 := kept_of hK 37 (by decide) (by assumption)
              refine .inl ⟨want_of (d := 177) rfl rfl (by omega) (slot_of (hprev 4 (by decide)) rfl), ?_⟩
              refine step_of_run (v := .int .i64 k0) (w' := _) ?_ ⟨rfl, _, rfl, (fun h => by cases h), rfl⟩
              simp [execOp, go_sem, hx37, g1, g2, g3, g4]
            · have d5 : U[178]?.getD undef = .int .i64 k0 := slot_of (hprev 5 (by decide)) rfl
              refine .inl ⟨want_of (d := 177) rfl rfl (by omega) (slot_of (hprev 4 (by decide)) rfl), ?_⟩
              refine step_of_run (v := .bool true) (w' := _) ?_ ⟨rfl, _, rfl, (fun h => by cases h), rfl⟩
              simp [execOp, go_sem, d5, g1, g2, g3, g4]
            · have d4 : U[177]?.getD undef = .bool true := slot_of (hprev 4 (by decide)) rfl
              have d6 : U[179]?.getD undef = .bool true := slot_of (hprev 6 (by decide)) rfl
              refine .inl ⟨want_none rfl, ?_⟩
              refine step_of_run (v := .bool true) (w' := _) ?_ ⟨rfl, _, rfl, (fun h => by cases h), rfl⟩
              simp [execOp, go_sem, d4, d6, g1, g2, g3, g4]
            · have d7 : U[180]?.getD undef = .bool true := slot_of (hprev 7 (by decide)) rfl
              refine .inl ⟨want_none rfl, ?_⟩
              refine step_of_run (v := .bool true) (w' := _) ?_ ⟨rfl, _, rfl, (fun h => by cases h), rfl⟩
              simp [execOp, go_sem, d7, g1, g2, g3, g4]
            · have hx24 : U[24]?.getD undef = .int .i64 p.last := kept_of hK 24 (by decide) (by assumption)
              refine .inl ⟨want_of (d := 181) rfl rfl (by omega) (slot_of (hprev 8 (by decide)) rfl), ?_⟩
              refine step_of_run (v := .int .i64 p.last) (w' := _) ?_ ⟨rfl, _, rfl, (fun h => by cases h), rfl⟩
              simp [execOp, go_sem, hx24, g1, g2, g3, g4]
            · have d9 : U[182]?.getD undef = .int .i64 p.last := slot_of (hprev 9 (by decide)) rfl
              refine .inl ⟨want_of (d := 181) rfl rfl (by omega) (slot_of (hprev 8 (by decide)) rfl), ?_⟩
              refine step_of_run (v := .bool false) (w' := _) ?_ ⟨rfl, _, rfl, (fun h => by cases h), rfl⟩
              simp [execOp, go_sem, d9, g1, g2, g3, g4]
            · have d8 : U[181]?.getD undef = .bool true := slot_of (hprev 8 (by decide)) rfl
              have d10 : U[183]?.getD undef = .bool false := slot_of (hprev 10 (by decide)) rfl
              refine .inl ⟨want_none rfl, ?_⟩
              refine step_of_run (v := .bool false) (w' := _) ?_ ⟨rfl, _, rfl, (fun h => by cases h), rfl⟩
              simp [execOp, go_sem, d8, d10, g1, g2, g3, g4]
          · intro U hU hKU hall
            have b184 : U[184]?.getD undef = .bool false := slot_of (hall 11 (by decide)) rfl
            have hK2 := Keeps.trans HK.out (Kept.keeps (lo := 81) (hi := 734) (vs := [36, 37, 38, 39, 40, 41, 42]) hKU (hU.trans hT.symm) (by decide))
            have b36 : U[36]'(by omega) = ov := at_of _ (kept_of hKU 36 (by decide) s36)
            have HK2 := hidP hK2
            clear hall hKU hK2
            go_upto_if 184 with fail
            refine wp_cond_at false (by simpa [Act.eval] using b184) (fun h => by cases h) (fun _ => ?_)
            go_wp2_with fail
            have hr := HR.out
            have hkN : k0 = p.omN := by
              have hle := HLE.out
              unfold Inp.omN at hle ⊢
              split at hle <;> split <;> (try split at hle) <;> (try split) <;> omega
            rw [hkN] at hr
            exact HQ.out _ _ ov HK2.out (by simp [hU, b36]) hr
      · have g1 : (k0 : Int) < (p.lq : Int) := by omega
        have g2 : ¬ (k0 : Int) < 64 := by omega
        have g3 : (0 : Int) ≤ 0 := by omega
        have g4 := h64
        refine region_plain _ 735 hT [.int .i64 k0, .slice m7 p.lq c7, .int .i64 p.lq, .bool true, .bool true, .int .i64 k0, .bool false, .bool false, .bool false, undef, undef, .bool false] wr (by decide) (by decide) ?_ ?_
        · intro i hi U hU hK hprev
          have hi' : i < 12 := hi
          rcases (by omega : i = 0 ∨ i = 1 ∨ i = 2 ∨ i = 3 ∨ i = 4 ∨ i = 5 ∨ i = 6 ∨ i = 7 ∨ i = 8 ∨ i = 9 ∨ i = 10 ∨ i = 11) with rfl | rfl | rfl | rfl | rfl | rfl | rfl | rfl | rfl | rfl | rfl | rfl
          · have hx37 : U[37]?.getD undef = .int .i64 k0 := kept_of hK 37 (by decide) (by assumption)
            refine .inl ⟨want_none rfl, ?_⟩
            refine step_of_run (v := .int .i64 k0) (w' := _) ?_ ⟨rfl, _, rfl, (fun h => by cases h), rfl⟩
            simp [execOp, go_sem, hx37, g1, g2, g3, g4]
          · have hx7 : U[7]?.getD undef = .slice m7 p.lq c7 := kept_of hK 7 (by decide) (by assumption)
            refine .inl ⟨want_none rfl, ?_⟩
            refine step_of_run (v := .slice m7 p.lq c7) (w' := _) ?_ ⟨rfl, _, rfl, (fun h => by cases h), rfl⟩
            simp [execOp, go_sem, hx7, g1, g2, g3, g4]
          · have d1 : U[174]?.getD undef = .slice m7 p.lq c7 := slot_of (hprev 1 (by decide)) rfl
            refine .inl ⟨want_none rfl, ?_⟩
            refine step_of_run (v := .int .i64 p.lq) (w' := _) ?_ ⟨rfl, _, rfl, (fun h => by cases h), rfl⟩
            simp [execOp, go_sem, d1, g1, g2, g3, g4]
          · have d0 : U[173]?.getD undef = .int .i64 k0 := slot_of (hprev 0 (by decide)) rfl
            have d2 : U[175]?.getD undef = .int .i64 p.lq := slot_of (hprev 2 (by decide)) rfl
            refine .inl ⟨want_none rfl, ?_⟩
            refine step_of_run (v := .bool true) (w' := _) ?_ ⟨rfl, _, rfl, (fun h => by cases h), rfl⟩
            simp [execOp, go_sem, d0, d2, g1, g2, g3, g4]
          · have d3 : U[176]?.getD undef = .bool true := slot_of (hprev 3 (by decide)) rfl
            refine .inl ⟨want_none rfl, ?_⟩
            refine step_of_run (v := .bool true) (w' := _) ?_ ⟨rfl, _, rfl, (fun h => by cases h), rfl⟩
            simp [execOp, go_sem, d3, g1, g2, g3, g4]
          · have hx37 : U[37]?.getD undef = .int .i64 k0 := kept_of hK 37 (by decide) (by assumption)
            refine .inl ⟨want_of (d := 177) rfl rfl (by omega) (slot_of (hprev 4 (by decide)) rfl), ?_⟩
            refine step_of_run (v := .int .i64 k0) (w' := _) ?_ ⟨rfl, _, rfl, (fun h => by cases h), rfl⟩
            simp [execOp, go_sem, hx37, g1, g2, g3, g4]
          · have d5 : U[178]?.getD undef = .int .i64 k0 := slot_of (hprev 5 (by decide)) rfl
            refine .inl ⟨want_of (d := 177) rfl rfl (by omega) (slot_of (hprev 4 (by decide)) rfl), ?_⟩
            refine step_of_run (v := .bool false) (w' := _) ?_ ⟨rfl, _, rfl, (fun h => by cases h), rfl⟩
            simp [execOp, go_sem, d5, g1, g2, g3, g4]
          · have d4 : U[177]?.getD undef = .bool true := slot_of (hprev 4 (by decide)) rfl
            have d6 : U[179]?.getD undef = .bool false := slot_of (hprev 6 (by decide)) rfl
            refine .inl ⟨want_none rfl, ?_⟩
            refine step_of_run (v := .bool false) (w' := _) ?_ ⟨rfl, _, rfl, (fun h => by cases h), rfl⟩
            simp [execOp, go_sem, d4, d6, g1, g2, g3, g4]
          · have d7 : U[180]?.getD undef = .bool false := slot_of (hprev 7 (by decide)) rfl
            refine .inl ⟨want_none rfl, ?_⟩
            refine step_of_run (v := .bool false) (w' := _) ?_ ⟨rfl, _, rfl, (fun h => by cases h), rfl⟩
            simp [execOp, go_sem, d7, g1, g2, g3, g4]
          · exact .inr ⟨skip_of (d := 181) rfl rfl (by omega) (slot_of (hprev 8 (by decide)) rfl), rfl⟩
          · exact .inr ⟨skip_of (d := 181) rfl rfl (by omega) (slot_of (hprev 8 (by decide)) rfl), rfl⟩
          · have d8 : U[181]?.getD undef = .bool false := slot_of (hprev 8 (by decide)) rfl
            have d10 : U[183]?.getD undef = undef := slot_of (hprev 10 (by decide)) rfl
            refine .inl ⟨want_none rfl, ?_⟩
            refine step_of_run (v := .bool false) (w' := _) ?_ ⟨rfl, _, rfl, (fun h => by cases h), rfl⟩
            simp [execOp, go_sem, d8, d10, g1, g2, g3, g4]
        · intro U hU hKU hall
          have b184 : U[184]?.getD undef = .bool false := slot_of (hall 11 (by decide)) rfl
          have hK2 := Keeps.trans HK.out (Kept.keeps (lo := 81) (hi := 734) (vs := [36, 37, 38, 39, 40, 41, 42]) hKU (hU.trans hT.symm) (by decide))
          have b36 : U[36]'(by omega) = ov := at_of _ (kept_of hKU 36 (by decide) s36)
          have HK2 := hidP hK2
          clear hall hKU hK2
          go_upto_if 184 with fail
          refine wp_cond_at false (by simpa [Act.eval] using b184) (fun h => by cases h) (fun _ => ?_)
          go_wp2_with fail
          have hr := HR.out
          have hkN : k0 = p.omN := by
            have hle := HLE.out
            unfold Inp.omN at hle ⊢
            split at hle <;> split <;> (try split at hle) <;> (try split) <;> omega
          rw [hkN] at hr
          exact HQ.out _ _ ov HK2.out (by simp [hU, b36]) hr
    · have g1 : ¬ (k0 : Int) < (p.lq : Int) := by omega
      have g2 : (0 : Int) ≤ 0 := by omega
      have g3 : (0 : Int) ≤ 0 := by omega
      have g4 := hlq
      refine region_plain _ 735 hT [.int .i64 k0, .slice m7 p.lq c7, .int .i64 p.lq, .bool false, .bool false, undef, undef, .bool false, .bool false, undef, undef, .bool false] wr (by decide) (by decide) ?_ ?_
      · intro i hi U hU hK hprev
        have hi' : i < 12 := hi
        rcases (by omega : i = 0 ∨ i = 1 ∨ i = 2 ∨ i = 3 ∨ i = 4 ∨ i = 5 ∨ i = 6 ∨ i = 7 ∨ i = 8 ∨ i = 9 ∨ i = 10 ∨ i = 11) with rfl | rfl | rfl | rfl | rfl | rfl | rfl | rfl | rfl | rfl | rfl | rfl
        · have hx37 : U[37]?.getD undef = .int .i64 k0 := kept_of hK 37 (by decide) (by assumption)
          refine .inl ⟨want_none rfl, ?_⟩
          refine step_of_run (v := .int .i64 k0) (w' := _) ?_ ⟨rfl, _, rfl, (fun h => by cases h), rfl⟩
          simp [execOp, go_sem, hx37, g1, g2, g3, g4]
        · have hx7 : U[7]?.getD undef = .slice m7 p.lq c7 := kept_of hK 7 (by decide) (by assumption)
          refine .inl ⟨want_none rfl, ?_⟩
          refine step_of_run (v := .slice m7 p.lq c7) (w' := _) ?_ ⟨rfl, _, rfl, (fun h => by cases h), rfl⟩
          simp [execOp, go_sem, hx7, g1, g2, g3, g4]
        · have d1 : U[174]?.getD undef = .slice m7 p.lq c7 := slot_of (hprev 1 (by decide)) rfl
          refine .inl ⟨want_none rfl, ?_⟩
          refine step_of_run (v := .int .i64 p.lq) (w' := _) ?_ ⟨rfl, _, rfl, (fun h => by cases h), rfl⟩
          simp [execOp, go_sem, d1, g1, g2, g3, g4]
        · have d0 : U[173]?.getD undef = .int .i64 k0 := slot_of (hprev 0 (by decide)) rfl
          have d2 : U[175]?.getD undef = .int .i64 p.lq := slot_of (hprev 2 (by decide)) rfl
          refine .inl ⟨want_none rfl, ?_⟩
          refine step_of_run (v := .bool false) (w' := _) ?_ ⟨rfl, _, rfl, (fun h => by cases h), rfl⟩
          simp [execOp, go_sem, d0, d2, g1, g2, g3, g4]
        · have d3 : U[176]?.getD undef = .bool false := slot_of (hprev 3 (by decide)) rfl
          refine .inl ⟨want_none rfl, ?_⟩
          refine step_of_run (v := .bool false) (w' := _) ?_ ⟨rfl, _, rfl, (fun h => by cases h), rfl⟩
          simp [execOp, go_sem, d3, g1, g2, g3, g4]
        · exact .inr ⟨skip_of (d := 177) rfl rfl (by omega) (slot_of (hprev 4 (by decide)) rfl), rfl⟩
        · exact .inr ⟨skip_of (d := 177) rfl rfl (by omega) (slot_of (hprev 4 (by decide)) rfl), rfl⟩
        · have d4 : U[177]?.getD undef = .bool false := slot_of (hprev 4 (by decide)) rfl
          have d6 : U[179]?.getD undef = undef := slot_of (hprev 6 (by decide)) rfl
          refine .inl ⟨want_none rfl, ?_⟩
          refine step_of_run (v := .bool false) (w' := _) ?_ ⟨rfl, _, rfl, (fun h => by cases h), rfl⟩
          simp [execOp, go_sem, d4, d6, g1, g2, g3, g4]
        · have d7 : U[180]?.getD undef = .bool false := slot_of (hprev 7 (by decide)) rfl
          refine .inl ⟨want_none rfl, ?_⟩
          refine step_of_run (v := .bool false) (w' := _) ?_ ⟨rfl, _, rfl, (fun h => by cases h), rfl⟩
          simp [execOp, go_sem, d7, g1, g2, g3, g4]
        · exact .inr ⟨skip_of (d := 181) rfl rfl (by omega) (slot_of (hprev 8 (by decide)) rfl), rfl⟩
        · exact .inr ⟨skip_of (d := 181) rfl rfl (by omega) (slot_of (hprev 8 (by decide)) rfl), rfl⟩
        · have d8 : U[181]?.getD undef = .bool false := slot_of (hprev 8 (by decide)) rfl
          have d10 : U[183]?.getD undef = undef := slot_of (hprev 10 (by decide)) rfl
          refine .inl ⟨want_none rfl, ?_⟩
          refine step_of_run (v := .bool false) (w' := _) ?_ ⟨rfl, _, rfl, (fun h => by cases h), rfl⟩
          simp [execOp, go_sem, d8, d10, g1, g2, g3, g4]
      · intro U hU hKU hall
        have b184 : U[184]?.getD undef = .bool false := slot_of (hall 11 (by decide)) rfl
        have hK2 := Keeps.trans HK.out (Kept.keeps (lo := 81) (hi := 734) (vs := [36, 37, 38, 39, 40, 41, 42]) hKU (hU.trans hT.symm) (by decide))
        have b36 : U[36]'(by omega) = ov := at_of _ (kept_of hKU 36 (by decide) s36)
        have HK2 := hidP hK2
        clear hall hKU hK2
        go_upto_if 184 with fail
        refine wp_cond_at false (by simpa [Act.eval] using b184) (fun h => by cases h) (fun _ => ?_)
        go_wp2_with fail
        have hr := HR.out
        have hkN : k0 = p.omN := by
          have hle := HLE.out
          unfold Inp.omN at hle ⊢
          split at hle <;> split <;> (try split at hle) <;> (try split) <;> omega
        rw [hkN] at hr
        exact HQ.out _ _ ov HK2.out (by simp [hU, b36]) hr
  · rw [HI.out]
    obtain ⟨h1, hb7, hb8, hb9⟩ := H0.out
    exact ⟨0, by omega, Nat.zero_le _, Keeps.refl, t37, .slice none 0 0, t36, h1.ext fun k hk => by simp [lostT, Inp.olA], FailO.nil _ _ _, hb7, hb8, hb9, OnlyT.refl⟩

end Go.Proofs.Ybulkcawy
