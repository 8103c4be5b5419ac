/-
  LawS3859APlay: the log that it wants: the plain loops.
-/
import Derived.Test.YbulkcawyF38
namespace Go.Proofs.Ybulkcawy
open Go.RowKit
set_option linter.unusedSimpArgs false
set_option linter.unusedVariables false
set_option maxRecDepth 100000
set_option maxHeartbeats 1000000

/-- What stands while the wanted log is made. -/
structure WEnv (p : Inp) (B CA SB : Nat) (evv : Value) (w0 : World) : Prop where
  C : Row w0 B 23 7 (fun k => .int .i64 (upTo p.n p.crA k))
  RM : Row w0 (B + 1) 24 7 (fun k => .int .u8 (upTo p.n p.reA k))
  L : Row w0 (B + 3) 27 294 (fun x => .bool (lostT p p.omN x))
  ev : w0.ownsRow B 40 3 evv (allE p (p.last + 1)).length (evsV (allE p (p.last + 1)))
  S : Row w0 SB 3 1 (fun _ => .int .i64 p.stopA)
  CA : ∃ m, Row w0 CA 78 36 m

theorem WEnv.only {p : Inp} {B CA SB : Nat} {evv : Value} {w0 w : World} (h : WEnv p B CA SB evv w0) (ho : Only (fun b => b = CA) w0 w) (hc : ∃ m, Row w CA 78 36 m) : WEnv p B CA SB evv w := by
  obtain ⟨m, hm⟩ := h.CA
  refine ⟨h.C.only ho (row_ne h.C hm (by decide)), h.RM.only ho (row_ne h.RM hm (by decide)), h.L.only ho (row_ne h.L hm (by decide)), own_of_block h.ev fun g hg => ?_, h.S.only ho (row_ne h.S hm (by decide)), hc⟩
  rcases h.ev.2 with ⟨e, _⟩ | ⟨g', cap, cur, e, h1, h2, _⟩
  · rw [e] at hg; simp [Value.ownBlock] at hg
  · rw [e] at hg
    simp [Value.ownBlock] at hg
    subst hg
    refine ho.block _ (Array.getElem?_eq_some_iff.1 h2).1 fun e2 => ?_
    obtain ⟨cur', h3, _⟩ := hm
    rw [← e2, h2] at h3
    injection h3 with h3
    injection h3 with _ h3
    cases h3

/-- The wanted log so far: in a row of its own, made since w0. -/
def Want (B CA : Nat) (w0 w : World) (v : Value) (xs : List Int) : Prop := w.ownsRow B 3 1 v xs.length (intsV xs) ∧ (∀ b, v.ownBlock = some b → w0.heap.size ≤ b) ∧ Only (fun b => b = CA) w0 w
theorem Want.app {B CA : Nat} {w0 w w1 : World} {o : Obj} {v : Value} {xs ys : List Int} {g cap N k : Nat} (h : Want B CA w0 w v xs) (hN : N = xs.length) (hk : ys.length = k) (h1 : w1.ownsRow B 3 1 (.slice (some ⟨g, 0, none⟩) (N + k) cap) (N + k) (intsV xs ++ intsV ys)) (h2 : (w.alloc o).grownBy w1 v.ownBlock) (h3 : v.ownBlock = some g ∨ w.heap.size ≤ g) : Want B CA w0 w1 (.slice (some ⟨g, 0, none⟩) (N + k) cap) (xs ++ ys) := by
  obtain ⟨a1, a2, a3⟩ := h
  subst hN hk
  refine ⟨by rw [List.length_append, intsV_append]; exact h1, fun b hb => ?_, a3.trans' (grown_own a1 (Only.refl.alloc o) h1 h2) (fun b hb e => by have := a2 b e; omega)⟩
  simp [Value.ownBlock] at hb
  subst hb
  have := a3.size
  rcases h3 with h3 | h3
  · exact a2 _ h3
  · omega
theorem Want.same {B CA : Nat} {w0 w w1 : World} {v : Value} {xs : List Int} (h : Want B CA w0 w v xs) (ho : Only (fun _ => False) w w1) : Want B CA w0 w1 v xs :=
  ⟨own_of_block h.1 fun g hg => ho.block g (own_block_lt h.1 hg).2 (fun e => e), h.2.1, h.2.2.trans' ho (fun _ _ e => e.elim)⟩
theorem Want.row {B CA : Nat} {w0 w w1 : World} {v : Value} {xs : List Int} {m : Nat → Value} (h : Row w CA 78 36 m) (hw : Want B CA w0 w v xs) (hCA : CA < w0.heap.size) (ho : Only (fun b => v.ownBlock = some b) w w1) : Row w1 CA 78 36 m :=
  h.only ho (fun e => by have := hw.2.1 CA e; omega)

/-- Who has a message of round r, in the wanted log's numbers. -/
def sentsL (cr : Nat → Nat) (r k : Nat) : List Int := (List.range k).map fun j => codeOf (sentAt cr r (j + 1))
theorem sentsL_succ (cr : Nat → Nat) (r k : Nat) : sentsL cr r (k + 1) = sentsL cr r k ++ [codeOf (sentAt cr r (k + 1))] := by simp [sentsL, List.range_succ]

theorem f3_20 (p : Inp) (hp : p.ok) (B CA SB : Nat) (evv : Value) (w0 : World) (he : WEnv p B CA SB evv w0) (hB0 : B ≤ w0.heap.size) (r : Nat) (hr1 : 1 ≤ r) (hr : r ≤ 100) (xs : List Int) (hxs : xs.length ≤ 90000) (v : Value) (m : Nat → Value) (w : World) (hw : Want B CA w0 w v xs) (hca : Row w CA 78 36 m) (T : Array Value) (Q : Exit → Act → World → Prop) (hT0 : T.size = 735) (t23 : T[23]?.getD undef = .int .i64 p.n) (t35 : T[35]?.getD undef = .func (.func 8) #[] #[.pointer (some ⟨B, 0, none⟩)]) (t63 : T[63]?.getD undef = .int .i64 r) (t58 : T[58]?.getD undef = v) (t64 : T[64]?.getD undef = .int .i64 1)
    (hQ : ∀ T' w' v', Keeps 81 734 [58, 64] T T' → T'[58]?.getD undef = v' → Want B CA w0 w' v' (xs ++ sentsL (upTo p.n p.crA) r p.n) → Row w' CA 78 36 m → Q .normal ⟨T', []⟩ w') : (blkOf Yba.f3 20).wp Yba.prog Q ⟨T, []⟩ w := by
  conv in (blkOf Yba.f3 20) => whnf
  refine wp_block ?_
  have HQ := hidP hQ
  have HE := hidP he
  have HW0 := hidP (And.intro hw hca)
  have hn6 := hp.n6
  obtain ⟨mc, hmc⟩ := he.CA
  have hCAlt := hmc.lt
  clear hQ hp he hw hca hmc
  obtain ⟨i0, hi0, hz0, hz1, hz2⟩ := info_parts info3'
  obtain ⟨I, hI⟩ : ∃ I : Nat → Array Value → World → Prop, I = (fun k T2 wr => ∃ q, 1 ≤ q ∧ q + k = p.n + 1 ∧ Keeps 81 734 [58, 64] T T2 ∧ T2[64]?.getD undef = .int .i64 q ∧ ∃ wv, T2[58]?.getD undef = wv ∧ Want B CA w0 wr wv (xs ++ sentsL (upTo p.n p.crA) r (q - 1)) ∧ Row wr CA 78 36 m) := ⟨_, rfl⟩
  have HI := hidP hI
  clear hI
  refine wp_loop_n I ?_ p.n _ _ ?_
  · intro k T2 wr hIk
    rw [HI.out] at hIk
    obtain ⟨q, hq1, hqk, hK, u64, wv, u58, hw, hca⟩ := hIk
    have hT : T2.size = 735 := hK.1.trans hT0
    have a23 := hK.at' hT 23 (by decide) t23 (by decide) (by decide)
    have a35 := hK.at' hT 35 (by decide) t35 (by decide) (by decide)
    have a63 := hK.at' hT 63 (by decide) t63 (by decide) (by decide)
    have a58 : T2[58]'(by omega) = _ := at_of _ u58
    have a64 : T2[64]'(by omega) = _ := at_of _ u64
    have HK := hidP hK
    clear hK u58 u64
    have HW := hidP hw
    have HCA := hidP hca
    have HER := hidP (HE.out.only hw.2.2 ⟨_, hca⟩)
    clear hw hca
    go_upto_if 437 with fail
    refine wp_cond_at (decide (q ≤ p.n)) (by simp [Act.eval, hT]) (fun h => ?_) (fun h => ?_)
    · have hqn : q ≤ p.n := of_decide_eq_true h
      clear h
      refine gen_frame (fun T2 => T2.size = 735 ∧ Keeps 81 734 [58, 64] T T2 ∧ T2[58]?.getD undef = wv ∧ T2[64]?.getD undef = .int .i64 q) ⟨by simp [hT], ?_, by simp [hT, a23, a35, a63, a58, a64], by simp [hT, a23, a35, a63, a58, a64]⟩ ?_
      · repeat (refine Keeps.put ?_ _ _ (by first | exact .inr ⟨by decide, by decide⟩ | exact .inl (by decide)))
        exact HK.out
      clear a23 a35 a63 a58 a64 HK hT
      clear T2
      rintro T2 ⟨hT, hK, u58, u64⟩
      have a23 := hK.at' hT 23 (by decide) t23 (by decide) (by decide)
      have a35 := hK.at' hT 35 (by decide) t35 (by decide) (by decide)
      have a63 := hK.at' hT 63 (by decide) t63 (by decide) (by decide)
      have a58 : T2[58]'(by omega) = _ := at_of _ u58
      have a64 : T2[64]'(by omega) = _ := at_of _ u64
      have HK := hidP hK
      clear hK u58 u64
      obtain ⟨r1, hr1e⟩ : ∃ r1, r1 = r - 1 := ⟨_, rfl⟩
      have hrI : (r : Int) - 1 = (r1 : Int) := by omega
      obtain ⟨D, hD⟩ : ∃ D, D = compl (upTo p.n p.crA) q r1 := ⟨_, rfl⟩
      have h8 := ownCompletes B 23 q r1 (upTo p.n p.crA) wr HER.out.C (by omega)
      rw [← hD] at h8
      have H8 := hidP h8
      have HD := hidP hD
      have HR1 := hidP hr1e
      clear h8 hD hr1e
      go_upto_if 444 with (go_at_call 8; refine H8.out.mono ?_; rintro e w2 ⟨rfl, hw2⟩; have hw3 := hw2.symm; clear hw2; subst hw3)
      have hcode : codeOf (sentAt (upTo p.n p.crA) r q) = if D then (q : Int) * 100 + (r : Int) else -1 := by
        unfold sentAt
        rw [HD.out, HR1.out]
        cases compl (upTo p.n p.crA) q (r - 1) <;> rfl
      have HCODE := hidP hcode
      have hsl : (sentsL (upTo p.n p.crA) r (q - 1)).length = q - 1 := by simp [sentsL]
      have hxl : (xs ++ sentsL (upTo p.n p.crA) r (q - 1)).length ≤ 90010 := by rw [List.length_append]; omega
      have e1 : q - 1 + 1 = q := by omega
      have hss : sentsL (upTo p.n p.crA) r (q + 1 - 1) = sentsL (upTo p.n p.crA) r (q - 1) ++ [codeOf (sentAt (upTo p.n p.crA) r q)] := by
        rw [show q + 1 - 1 = q - 1 + 1 by omega, sentsL_succ, e1]
      have HSS := hidP hss
      clear hcode hss hsl
      refine wp_cond_at D (by simp [Act.eval, hT]) (fun h => ?_) (fun h => ?_)
      · -- sent
        refine gen_frame (fun T2 => T2.size = 735 ∧ Keeps 81 734 [58, 64] T T2 ∧ T2[58]?.getD undef = wv ∧ T2[64]?.getD undef = .int .i64 q) ⟨by simp [hT], ?_, by simp [hT, a23, a35, a63, a58, a64], by simp [hT, a23, a35, a63, a58, a64]⟩ ?_
        · repeat (refine Keeps.put ?_ _ _ (by first | exact .inr ⟨by decide, by decide⟩ | exact .inl (by decide)))
          exact HK.out
        clear a23 a35 a63 a58 a64 HK hT
        clear T2
        rintro T2 ⟨hT, hK, u58, u64⟩
        have a23 := hK.at' hT 23 (by decide) t23 (by decide) (by decide)
        have a35 := hK.at' hT 35 (by decide) t35 (by decide) (by decide)
        have a63 := hK.at' hT 63 (by decide) t63 (by decide) (by decide)
        have a58 : T2[58]'(by omega) = _ := at_of _ u58
        have a64 : T2[64]'(by omega) = _ := at_of _ u64
        have HK := hidP hK
        clear hK u58 u64
        have hown := HW.out.1
        have hlenX : (xs ++ sentsL (upTo p.n p.crA) r (q - 1)).length ≤ 100000 := by omega
        obtain ⟨N, hN⟩ : ∃ N, N = (xs ++ sentsL (upTo p.n p.crA) r (q - 1)).length := ⟨_, rfl⟩
        rw [← hN] at hown hlenX
        have HN := hidP hN
        have HOWN := hidP hown
        have hsz := HW.out.2.2.size
        have hBw : B ≤ wr.heap.size := Nat.le_trans hB0 hsz
        clear hN hown
        go_wp2_with (at_builtin; refine wpList_append_lies _ rfl _ _ 29 rfl B 3 i0 (.int .i64 0) 1 8 Yba.underlying29 hi0 hz0 hz1 hz2 rfl (by decide) wv N (intsV (xs ++ sentsL (upTo p.n p.crA) r (q - 1))) (by simp [Act.eval, hT]) ?c1 ⟨wr.heap.size, 0, none⟩ 1 1 (intsV [(q : Int) * 100 + (r : Int)]) (by simp [Act.eval, hT]) rfl ?c2 (by simp [intsV, Value.oneCell']) (by decide) (by show _ ≤ 9223372036854775807; omega) (by omega) ?c3 (wr.heap.size + 1) ?c4 ?_)
        case c1 => exact HOWN.out.alloc _
        first | (case c2 => exact World.news_of_block (heap_alloc_new wr (.cells #[.int .i64 ((q : Int) * 100 + (r : Int))] 3))) | skip
        case c3 => first | omega | (simp; omega)
        first | (case c4 => simp) | skip
        intro gg cp w1 hown1 hgrow hat hlt
        have hwant : Want B CA w0 w1 (.slice (some ⟨gg, 0, none⟩) (N + 1) cp) (xs ++ sentsL (upTo p.n p.crA) r (q - 1) ++ [(q : Int) * 100 + (r : Int)]) := HW.out.app (ys := [(q : Int) * 100 + (r : Int)]) HN.out rfl hown1 hgrow (by rcases hat with h | h; exact .inl h; exact .inr (by omega))
        have HCW := hidP (Want.row HCA.out HW.out hCAlt (grown_own HW.out.1 (Only.refl.alloc _) (by rw [← HN.out]; exact hown1) hgrow))
        have HW' := hidP hwant
        have hsl : ∃ wv', wv' = Value.slice (some ⟨gg, 0, none⟩) (N + 1) cp := ⟨_, rfl⟩
        clear hown1 hgrow hat hlt hwant hsl
        have hcw1 : Row w1 CA 78 36 m := HCW.out
        go_wp2_with fail
        first | refine ⟨trivial, k - 1, by omega, ?_⟩ | refine ⟨k - 1, by omega, ?_⟩
        rw [HI.out]
        refine ⟨q + 1, by omega, by omega, ?_, by simp [hT], .slice (some ⟨gg, 0, none⟩) (N + 1) cp, by simp [hT], ?_, HCW.out⟩
        · repeat (refine Keeps.put ?_ _ _ (by first | exact .inr ⟨by decide, by decide⟩ | exact .inl (by decide)))
          exact HK.out
        · rw [HSS.out, HCODE.out, h, ← List.append_assoc]
          exact HW'.out
      · -- not sent
        refine gen_frame (fun T2 => T2.size = 735 ∧ Keeps 81 734 [58, 64] T T2 ∧ T2[58]?.getD undef = wv ∧ T2[64]?.getD undef = .int .i64 q) ⟨by simp [hT], ?_, by simp [hT, a23, a35, a63, a58, a64], by simp [hT, a23, a35, a63, a58, a64]⟩ ?_
        · repeat (refine Keeps.put ?_ _ _ (by first | exact .inr ⟨by decide, by decide⟩ | exact .inl (by decide)))
          exact HK.out
        clear a23 a35 a63 a58 a64 HK hT
        clear T2
        rintro T2 ⟨hT, hK, u58, u64⟩
        have a23 := hK.at' hT 23 (by decide) t23 (by decide) (by decide)
        have a35 := hK.at' hT 35 (by decide) t35 (by decide) (by decide)
        have a63 := hK.at' hT 63 (by decide) t63 (by decide) (by decide)
        have a58 : T2[58]'(by omega) = _ := at_of _ u58
        have a64 : T2[64]'(by omega) = _ := at_of _ u64
        have HK := hidP hK
        clear hK u58 u64
        have hown := HW.out.1
        have hlenX : (xs ++ sentsL (upTo p.n p.crA) r (q - 1)).length ≤ 100000 := by omega
        obtain ⟨N, hN⟩ : ∃ N, N = (xs ++ sentsL (upTo p.n p.crA) r (q - 1)).length := ⟨_, rfl⟩
        rw [← hN] at hown hlenX
        have HN := hidP hN
        have HOWN := hidP hown
        have hsz := HW.out.2.2.size
        have hBw : B ≤ wr.heap.size := Nat.le_trans hB0 hsz
        clear hN hown
        go_wp2_with (at_builtin; refine wpList_append_lies _ rfl _ _ 29 rfl B 3 i0 (.int .i64 0) 1 8 Yba.underlying29 hi0 hz0 hz1 hz2 rfl (by decide) wv N (intsV (xs ++ sentsL (upTo p.n p.crA) r (q - 1))) (by simp [Act.eval, hT]) ?c1 ⟨wr.heap.size, 0, none⟩ 1 1 (intsV [-1]) (by simp [Act.eval, hT]) rfl ?c2 (by simp [intsV, Value.oneCell']) (by decide) (by show _ ≤ 9223372036854775807; omega) (by omega) ?c3 (wr.heap.size + 1) ?c4 ?_)
        case c1 => exact HOWN.out.alloc _
        first | (case c2 => exact World.news_of_block (heap_alloc_new wr (.cells #[.int .i64 (-1)] 3))) | skip
        case c3 => first | omega | (simp; omega)
        first | (case c4 => simp) | skip
        intro gg cp w1 hown1 hgrow hat hlt
        have hwant : Want B CA w0 w1 (.slice (some ⟨gg, 0, none⟩) (N + 1) cp) (xs ++ sentsL (upTo p.n p.crA) r (q - 1) ++ [-1]) := HW.out.app (ys := [-1]) HN.out rfl hown1 hgrow (by rcases hat with h | h; exact .inl h; exact .inr (by omega))
        have HCW := hidP (Want.row HCA.out HW.out hCAlt (grown_own HW.out.1 (Only.refl.alloc _) (by rw [← HN.out]; exact hown1) hgrow))
        have HW' := hidP hwant
        have hsl : ∃ wv', wv' = Value.slice (some ⟨gg, 0, none⟩) (N + 1) cp := ⟨_, rfl⟩
        clear hown1 hgrow hat hlt hwant hsl
        have hcw1 : Row w1 CA 78 36 m := HCW.out
        go_wp2_with fail
        first | refine ⟨trivial, k - 1, by omega, ?_⟩ | refine ⟨k - 1, by omega, ?_⟩
        rw [HI.out]
        refine ⟨q + 1, by omega, by omega, ?_, by simp [hT], .slice (some ⟨gg, 0, none⟩) (N + 1) cp, by simp [hT], ?_, HCW.out⟩
        · repeat (refine Keeps.put ?_ _ _ (by first | exact .inr ⟨by decide, by decide⟩ | exact .inl (by decide)))
          exact HK.out
        · rw [HSS.out, HCODE.out, h, ← List.append_assoc]
          exact HW'.out
    · have hqn : q - 1 = p.n := by have := of_decide_eq_false h; omega
      clear h
      go_wp2_with fail
      have hw := HW.out
      rw [hqn] at hw
      refine HQ.out _ _ wv ?_ (by simp [hT, a58]) hw HCA.out
      repeat (refine Keeps.put ?_ _ _ (by first | exact .inr ⟨by decide, by decide⟩ | exact .inl (by decide)))
      exact HK.out
  · rw [HI.out]
    refine ⟨1, by omega, by omega, Keeps.refl, t64, v, t58, ?_, HW0.out.2⟩
    simpa [sentsL] using HW0.out.1

theorem f3_32 (p : Inp) (hp : p.ok) (B CA SB : Nat) (evv : Value) (w0 : World) (he : WEnv p B CA SB evv w0) (hB0 : B ≤ w0.heap.size) (r : Nat) (hr : r ≤ 100) (xs : List Int) (hxs : xs.length ≤ 90000) (v : Value) (m : Nat → Value) (w : World) (hw : Want B CA w0 w v xs) (hca : Row w CA 78 36 m) (T : Array Value) (Q : Exit → Act → World → Prop) (hT0 : T.size = 735) (t23 : T[23]?.getD undef = .int .i64 p.n) (t35 : T[35]?.getD undef = .func (.func 8) #[] #[.pointer (some ⟨B, 0, none⟩)]) (t63 : T[63]?.getD undef = .int .i64 r) (t58 : T[58]?.getD undef = v) (t74 : T[74]?.getD undef = .int .i64 1)
    (hQ : ∀ T' w' v', Keeps 81 734 [58, 74] T T' → T'[58]?.getD undef = v' → Want B CA w0 w' v' (xs ++ givesL (upTo p.n p.crA) r p.n) → Row w' CA 78 36 m → Q .normal ⟨T', []⟩ w') : (blkOf Yba.f3 32).wp Yba.prog Q ⟨T, []⟩ w := by
  conv in (blkOf Yba.f3 32) => whnf
  refine wp_block ?_
  have HQ := hidP hQ
  have HE := hidP he
  have HW0 := hidP (And.intro hw hca)
  have hn6 := hp.n6
  obtain ⟨mc, hmc⟩ := he.CA
  have hCAlt := hmc.lt
  clear hQ hp he hw hca hmc
  obtain ⟨i0, hi0, hz0, hz1, hz2⟩ := info_parts info3'
  obtain ⟨I, hI⟩ : ∃ I : Nat → Array Value → World → Prop, I = (fun k T2 wr => ∃ q, 1 ≤ q ∧ q + k = p.n + 1 ∧ Keeps 81 734 [58, 74] T T2 ∧ T2[74]?.getD undef = .int .i64 q ∧ ∃ wv, T2[58]?.getD undef = wv ∧ Want B CA w0 wr wv (xs ++ givesL (upTo p.n p.crA) r (q - 1)) ∧ Row wr CA 78 36 m) := ⟨_, rfl⟩
  have HI := hidP hI
  clear hI
  refine wp_loop_n I ?_ p.n _ _ ?_
  · intro k T2 wr hIk
    rw [HI.out] at hIk
    obtain ⟨q, hq1, hqk, hK, u74, wv, u58, hw, hca⟩ := hIk
    have hT : T2.size = 735 := hK.1.trans hT0
    have a23 := hK.at' hT 23 (by decide) t23 (by decide) (by decide)
    have a35 := hK.at' hT 35 (by decide) t35 (by decide) (by decide)
    have a63 := hK.at' hT 63 (by decide) t63 (by decide) (by decide)
    have a58 : T2[58]'(by omega) = _ := at_of _ u58
    have a74 : T2[74]'(by omega) = _ := at_of _ u74
    have HK := hidP hK
    clear hK u58 u74
    have HW := hidP hw
    have HCA := hidP hca
    have HER := hidP (HE.out.only hw.2.2 ⟨_, hca⟩)
    clear hw hca
    go_upto_if 616 with fail
    refine wp_cond_at (decide (q ≤ p.n)) (by simp [Act.eval, hT]) (fun h => ?_) (fun h => ?_)
    · have hqn : q ≤ p.n := of_decide_eq_true h
      clear h
      refine gen_frame (fun T2 => T2.size = 735 ∧ Keeps 81 734 [58, 74] T T2 ∧ T2[58]?.getD undef = wv ∧ T2[74]?.getD undef = .int .i64 q) ⟨by simp [hT], ?_, by simp [hT, a23, a35, a63, a58, a74], by simp [hT, a23, a35, a63, a58, a74]⟩ ?_
      · repeat (refine Keeps.put ?_ _ _ (by first | exact .inr ⟨by decide, by decide⟩ | exact .inl (by decide)))
        exact HK.out
      clear a23 a35 a63 a58 a74 HK hT
      clear T2
      rintro T2 ⟨hT, hK, u58, u74⟩
      have a23 := hK.at' hT 23 (by decide) t23 (by decide) (by decide)
      have a35 := hK.at' hT 35 (by decide) t35 (by decide) (by decide)
      have a63 := hK.at' hT 63 (by decide) t63 (by decide) (by decide)
      have a58 : T2[58]'(by omega) = _ := at_of _ u58
      have a74 : T2[74]'(by omega) = _ := at_of _ u74
      have HK := hidP hK
      clear hK u58 u74
      obtain ⟨D, hD⟩ : ∃ D, D = compl (upTo p.n p.crA) q r := ⟨_, rfl⟩
      have h8 := ownCompletes B 23 q r (upTo p.n p.crA) wr HER.out.C (by omega)
      rw [← hD] at h8
      have H8 := hidP h8
      have HD := hidP hD
      clear h8 hD
      go_upto_if 622 with (go_at_call 8; refine H8.out.mono ?_; rintro e w2 ⟨rfl, hw2⟩; have hw3 := hw2.symm; clear hw2; subst hw3)
      have hsl := givesL_len (upTo p.n p.crA) r (q - 1)
      have hxl : (xs ++ givesL (upTo p.n p.crA) r (q - 1)).length ≤ 90030 := by rw [List.length_append]; omega
      have e1 : q - 1 + 1 = q := by omega
      have hss : givesL (upTo p.n p.crA) r (q + 1 - 1) = givesL (upTo p.n p.crA) r (q - 1) ++ (if D then [-3, (q : Int), (r : Int) + 1] else []) := by
        rw [show q + 1 - 1 = q - 1 + 1 by omega, givesL_succ, e1, HD.out]
        cases compl (upTo p.n p.crA) q r <;> simp
      have HSS := hidP hss
      clear hss hsl
      refine wp_cond_at D (by simp [Act.eval, hT]) (fun h => ?_) (fun h => ?_)
      · -- gives
        refine gen_frame (fun T2 => T2.size = 735 ∧ Keeps 81 734 [58, 74] T T2 ∧ T2[58]?.getD undef = wv ∧ T2[74]?.getD undef = .int .i64 q) ⟨by simp [hT], ?_, by simp [hT, a23, a35, a63, a58, a74], by simp [hT, a23, a35, a63, a58, a74]⟩ ?_
        · repeat (refine Keeps.put ?_ _ _ (by first | exact .inr ⟨by decide, by decide⟩ | exact .inl (by decide)))
          exact HK.out
        clear a23 a35 a63 a58 a74 HK hT
        clear T2
        rintro T2 ⟨hT, hK, u58, u74⟩
        have a23 := hK.at' hT 23 (by decide) t23 (by decide) (by decide)
        have a35 := hK.at' hT 35 (by decide) t35 (by decide) (by decide)
        have a63 := hK.at' hT 63 (by decide) t63 (by decide) (by decide)
        have a58 : T2[58]'(by omega) = _ := at_of _ u58
        have a74 : T2[74]'(by omega) = _ := at_of _ u74
        have HK := hidP hK
        clear hK u58 u74
        have hown := HW.out.1
        have hlenX : (xs ++ givesL (upTo p.n p.crA) r (q - 1)).length ≤ 100000 := by omega
        obtain ⟨N, hN⟩ : ∃ N, N = (xs ++ givesL (upTo p.n p.crA) r (q - 1)).length := ⟨_, rfl⟩
        rw [← hN] at hown hlenX
        have HN := hidP hN
        have HOWN := hidP hown
        have hsz := HW.out.2.2.size
        have hBw : B ≤ wr.heap.size := Nat.le_trans hB0 hsz
        clear hN hown
        go_wp2_with (at_builtin; refine wpList_append_lies _ rfl _ _ 29 rfl B 3 i0 (.int .i64 0) 1 8 Yba.underlying29 hi0 hz0 hz1 hz2 rfl (by decide) wv N (intsV (xs ++ givesL (upTo p.n p.crA) r (q - 1))) (by simp [Act.eval, hT]) ?c1 ⟨wr.heap.size, 0, none⟩ 3 3 (intsV [-3, (q : Int), (r : Int) + 1]) (by simp [Act.eval, hT]) rfl ?c2 (by simp [intsV, Value.oneCell']) (by decide) (by show _ ≤ 9223372036854775807; omega) (by omega) ?c3 (wr.heap.size + 1) ?c4 ?_)
        case c1 => exact HOWN.out.alloc _
        first | (case c2 => exact World.news_of_block (heap_alloc_new wr (.cells #[.int .i64 (-3), .int .i64 q, .int .i64 ((r : Int) + 1)] 3))) | skip
        case c3 => first | omega | (simp; omega)
        first | (case c4 => simp) | skip
        intro gg cp w1 hown1 hgrow hat hlt
        have hwant : Want B CA w0 w1 (.slice (some ⟨gg, 0, none⟩) (N + 3) cp) (xs ++ givesL (upTo p.n p.crA) r (q - 1) ++ [-3, (q : Int), (r : Int) + 1]) := HW.out.app (ys := [-3, (q : Int), (r : Int) + 1]) HN.out rfl hown1 hgrow (by rcases hat with h | h; exact .inl h; exact .inr (by omega))
        have HCW := hidP (Want.row HCA.out HW.out hCAlt (grown_own HW.out.1 (Only.refl.alloc _) (by rw [← HN.out]; exact hown1) hgrow))
        have HW' := hidP hwant
        have hsl : ∃ wv', wv' = Value.slice (some ⟨gg, 0, none⟩) (N + 3) cp := ⟨_, rfl⟩
        clear hown1 hgrow hat hlt hwant hsl
        have hcw1 : Row w1 CA 78 36 m := HCW.out
        go_wp2_with fail
        first | refine ⟨trivial, k - 1, by omega, ?_⟩ | refine ⟨k - 1, by omega, ?_⟩
        rw [HI.out]
        refine ⟨q + 1, by omega, by omega, ?_, by simp [hT], .slice (some ⟨gg, 0, none⟩) (N + 3) cp, by simp [hT], ?_, HCW.out⟩
        · repeat (refine Keeps.put ?_ _ _ (by first | exact .inr ⟨by decide, by decide⟩ | exact .inl (by decide)))
          exact HK.out
        · rw [HSS.out, h, ← List.append_assoc]
          exact HW'.out
      · -- gives none
        refine gen_frame (fun T2 => T2.size = 735 ∧ Keeps 81 734 [58, 74] T T2 ∧ T2[58]?.getD undef = wv ∧ T2[74]?.getD undef = .int .i64 q) ⟨by simp [hT], ?_, by simp [hT, a23, a35, a63, a58, a74], by simp [hT, a23, a35, a63, a58, a74]⟩ ?_
        · repeat (refine Keeps.put ?_ _ _ (by first | exact .inr ⟨by decide, by decide⟩ | exact .inl (by decide)))
          exact HK.out
        clear a23 a35 a63 a58 a74 HK hT
        clear T2
        rintro T2 ⟨hT, hK, u58, u74⟩
        have a23 := hK.at' hT 23 (by decide) t23 (by decide) (by decide)
        have a35 := hK.at' hT 35 (by decide) t35 (by decide) (by decide)
        have a63 := hK.at' hT 63 (by decide) t63 (by decide) (by decide)
        have a58 : T2[58]'(by omega) = _ := at_of _ u58
        have a74 : T2[74]'(by omega) = _ := at_of _ u74
        have HK := hidP hK
        clear hK u58 u74
        go_wp2_with fail
        first | refine ⟨trivial, k - 1, by omega, ?_⟩ | refine ⟨k - 1, by omega, ?_⟩
        rw [HI.out]
        refine ⟨q + 1, by omega, by omega, ?_, by simp [hT], wv, by simp [hT, a58], ?_, HCA.out⟩
        · repeat (refine Keeps.put ?_ _ _ (by first | exact .inr ⟨by decide, by decide⟩ | exact .inl (by decide)))
          exact HK.out
        · rw [HSS.out, h]
          simpa using HW.out
    · have hqn : q - 1 = p.n := by have := of_decide_eq_false h; omega
      clear h
      go_wp2_with fail
      have hw := HW.out
      rw [hqn] at hw
      refine HQ.out _ _ wv ?_ (by simp [hT, a58]) hw HCA.out
      repeat (refine Keeps.put ?_ _ _ (by first | exact .inr ⟨by decide, by decide⟩ | exact .inl (by decide)))
      exact HK.out
  · rw [HI.out]
    refine ⟨1, by omega, by omega, Keeps.refl, t74, v, t58, ?_, HW0.out.2⟩
    simpa [givesL] using HW0.out.1

end Go.Proofs.Ybulkcawy
