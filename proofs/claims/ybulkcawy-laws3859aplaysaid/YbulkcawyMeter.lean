/-
  The law's meter: the closure that logs a round's messages.
-/
import Derived.Test.YbulkcawyProc
namespace Go.Proofs.Ybulkcawy
open Go.RowKit
set_option linter.unusedSimpArgs false
set_option linter.unusedVariables false
set_option maxRecDepth 100000
set_option maxHeartbeats 2000000

theorem meter (L base : Nat) (xs : List Int) (g : Option Nat) (w : World) (hL : L < base) (hbase : base ≤ w.heap.size) (hlog : LogAt w base L xs g) (hlen : xs.length ≤ 900000) (r I n : Nat) (ms : Nat → Option Int) (hr : r ≤ 1000) (hn : n ≤ 1000) (hI : Row w I 20 (n + 1) (fun k => msgV (ms k))) (hIb : I < base) (hIL : I ≠ L) :
    Calls Yba.prog 12 #[.int .i64 r, .slice (some ⟨I, 0, none⟩) (n + 1) (n + 1), .pointer (some ⟨L, 0, none⟩)] w fun e w' => e = .returned (.tuple #[]) ∧ ∃ g', LogAt w' base L (xs ++ [-2, (r : Int)] ++ (List.range n).map (fun k => codeOf (ms (k + 1)))) g' ∧ NewG w g g' ∧ Only (LogS L g) w w' := by
  have hlog' := hlog
  obtain ⟨v0, hrow, hown, hg0⟩ := hlog'
  subst hg0
  have hIg : ¬ LogS L v0.ownBlock I := by
    rintro (h | h)
    · exact hIL h
    · have := hlog.block_lt h
      omega
  obtain ⟨i0, hi0, hz0, hz1, hz2⟩ := info_parts info3'
  have HI := hidP hI
  have HLOG := hidP hlog
  have HROW := hidP hrow
  have HOWN := hidP hown
  have cL : w.cell? ⟨L, 0, none⟩ = some v0 := hrow.cell 0 (by omega)
  have hLw := hrow.lt
  clear hlog hrow hown hI
  refine calls_of_wp Yba.func12 rfl ?_
  simp only [Yba.ntmps12, List.size_toArray, List.length_cons, List.length_nil, Nat.reduceAdd, Nat.reduceSub, Array.replicate_succ, Array.replicate_zero, List.push_toArray, List.append_toArray, List.nil_append, List.cons_append]
  go_wp2_with (at_builtin; refine wpList_append_lies _ rfl _ _ 29 rfl base 3 i0 (.int .i64 0) 1 8 Yba.underlying29 hi0 hz0 hz1 hz2 rfl (by decide) v0 xs.length (intsV xs) rfl (HOWN.out.alloc _) ⟨w.heap.size, 0, none⟩ 2 2 (intsV [-2, (r : Int)]) rfl rfl (World.news_of_block (heap_alloc_new _ _)) (by simp [intsV, Value.oneCell']) (by decide) (by show _ ≤ 9223372036854775807; omega) (by omega) (by simp; omega) (w.heap.size + 1) (by simp) ?_)
  intro gg cap w1 hown1 hgrow hat hlt
  obtain ⟨M1, M2, M3⟩ := LogAt.stored (w := w) (wa := w.alloc _) (ys := [-2, (r : Int)]) HROW.out HOWN.out hL (Only.refl.alloc _) hown1 hgrow (by rcases hat with h | h; exact .inl h; exact .inr (by omega))
  have hr1 : Row w1 L 29 1 (fun _ => v0) := (HROW.out.alloc _).grown hgrow (fun e => by have := own_block_lt HOWN.out e.symm; omega)
  have cL1 := hr1.cell 0 (by omega)
  have fL1 := hr1.frozen 0
  obtain ⟨w2, hw2⟩ : ∃ w2, w2 = w1.setCell ⟨L, 0, none⟩ (.slice (some ⟨gg, 0, none⟩) (xs.length + 2) cap) := ⟨_, rfl⟩
  have M1 : LogAt w2 base L (xs ++ [-2, (r : Int)]) (some gg) := by rw [hw2]; exact M1
  have M3 : Only (LogS L v0.ownBlock) w w2 := by rw [hw2]; exact M3
  have N1 := hidP M1
  have N2 := hidP M2
  have N3 := hidP M3
  clear M1 M2 M3 hown1 hgrow hat hlt hr1 HLOG
  have HW2 := hidP hw2
  clear hw2
  go_wp2_with fail
  rw [← HW2.out]
  clear HW2 cL1 fL1 cL
  refine wp_loop_n (fun k T wr => ∃ q, 1 ≤ q ∧ q + k = n + 1 ∧ T.size = 24 ∧ T[1]?.getD undef = .slice (some ⟨I, 0, none⟩) (n + 1) (n + 1) ∧ T[2]?.getD undef = .pointer (some ⟨L, 0, none⟩) ∧ T[5]?.getD undef = .int .i64 q ∧ ∃ g1, LogAt wr base L (xs ++ [-2, (r : Int)] ++ (List.range (q - 1)).map (fun k => codeOf (ms (k + 1)))) g1 ∧ NewG w v0.ownBlock g1 ∧ Only (LogS L v0.ownBlock) w wr) ?_ n _ _ ?_
  · rintro k T wr ⟨q, hq1, hjk, hT, t1, t2, t5, g1, k1, k2, k3⟩
    have a1 : T[1]'(by omega) = _ := at_of _ t1
    have a2 : T[2]'(by omega) = _ := at_of _ t2
    have a5 : T[5]'(by omega) = _ := at_of _ t5
    have K1 := hidP k1
    have K2 := hidP k2
    have K3 := hidP k3
    clear k1 k2 k3 t1 t2 t5
    go_wp2_with fail
    refine wp_cond_at (decide (q < n + 1)) (by simp [Act.eval, hT]; omega) (fun h => ?_) (fun h => ?_)
    · have hjn : q < n + 1 := of_decide_eq_true h
      have i1 : (0 : Int) ≤ (q : Int) := by omega
      have i2 : (q : Int) < (n : Int) + 1 := by omega
      have hIr := hidP (HI.out.only K3.out hIg)
      have hIg1 : ¬ LogS L g1 I := by
        rintro (h | h)
        · exact hIL h
        · have := K1.out.block_lt h
          omega
      clear h HROW HOWN
      go_wp2_with fail
      obtain ⟨u0, hrow, hown, hg0⟩ := K1.out
      have HROW := hidP hrow
      clear hrow hown
      have hlen1 : (xs ++ [-2, (r : Int)] ++ (List.range (q - 1)).map (fun k => codeOf (ms (k + 1)))).length ≤ 910000 := by simp; omega
      have hbase1 : base ≤ wr.heap.size := by have := K3.out.size; omega
      refine region_log _ 24 (by simp [hT]) [some (u0), some (.slice (some ⟨I, 0, none⟩) (n + 1) (n + 1)), some (.int .i64 q), some (.pointer (some ⟨I, q, none⟩)), some (msgV (ms q)), some (.int .i64 (codeOf (ms q))), none, none, none] 0 6 7 8 (xs ++ [-2, (r : Int)] ++ (List.range (q - 1)).map (fun k => codeOf (ms (k + 1)))) [codeOf (ms q)] base L g1 wr K1.out hL hbase1 (by simp) (by simp only [List.length_cons, List.length_nil]; omega) (by decide) (by decide) (by decide) (by decide) rfl rfl rfl 16 22 23 2 rfl rfl rfl rfl rfl rfl (by decide) (by decide) (by decide) (by decide) rfl rfl rfl ?_ ?_ ?_ ?_ ?_
      · intro U hU hK hdep
        exact kept_of hK 2 (by decide) (by simp [hT, a1, a2, a5])
      · intro v h
        have h1 := h.cell 0 (by omega)
        have h2 := (HROW.out).cell 0 (by omega)
        rw [h1] at h2
        simpa using h2.symm
      · intro U w1 hU hK hdep
        have d5 : U[21]?.getD undef = .int .i64 (codeOf (ms q)) := slot_of (hdep ⟨5, .data⟩ (by simp) rfl _ rfl) rfl
        simp [execOp, go_sem, intsV, d5]
      · intro i hi l U w1 e1 e2 e3 hls hU hK hon hrw hdep
        have cI : w1.cell? ⟨I, q, none⟩ = some (msgV (ms q)) := (hIr.out.only hon hIg1).cell q (by omega)
        have cL : w1.cell? ⟨L, 0, none⟩ = some u0 := (hrw u0 HROW.out).cell 0 (by omega)
        have hu1 : U[1]?.getD undef = .slice (some ⟨I, 0, none⟩) (n + 1) (n + 1) := kept_of hK 1 (by decide) (by simp [hT, a1, a2, a5])
        have hu2 : U[2]?.getD undef = .pointer (some ⟨L, 0, none⟩) := kept_of hK 2 (by decide) (by simp [hT, a1, a2, a5])
        have hu5 : U[5]?.getD undef = .int .i64 q := kept_of hK 5 (by decide) (by simp [hT, a1, a2, a5])
        have hi' : i < 9 := hi
        rcases (by omega : i = 0 ∨ i = 1 ∨ i = 2 ∨ i = 3 ∨ i = 4 ∨ i = 5 ∨ i = 6 ∨ i = 7 ∨ i = 8) with rfl | rfl | rfl | rfl | rfl | rfl | rfl | rfl | rfl
        · refine step_of_run (v := u0) (w' := w1) ?_ ⟨rfl, _, rfl, (fun h => by cases h), rfl⟩
          simp [execOp, go_sem, hu2, cI, cL, i1, i2]
        · refine step_of_run (v := .slice (some ⟨I, 0, none⟩) (n + 1) (n + 1)) (w' := w1) ?_ ⟨rfl, _, rfl, (fun h => by cases h), rfl⟩
          simp [execOp, go_sem, hu1, cI, cL, i1, i2]
        · refine step_of_run (v := .int .i64 q) (w' := w1) ?_ ⟨rfl, _, rfl, (fun h => by cases h), rfl⟩
          simp [execOp, go_sem, hu5, cI, cL, i1, i2]
        · have d1 : U[17]?.getD undef = .slice (some ⟨I, 0, none⟩) (n + 1) (n + 1) := slot_of (hdep ⟨1, .data⟩ (by simp) rfl _ rfl) rfl
          have d2 : U[18]?.getD undef = .int .i64 q := slot_of (hdep ⟨2, .data⟩ (by simp) rfl _ rfl) rfl
          refine step_of_run (v := .pointer (some ⟨I, q, none⟩)) (w' := w1) ?_ ⟨rfl, _, rfl, (fun h => by cases h), rfl⟩
          simp [execOp, go_sem, d1, d2, cI, cL, i1, i2]
        · have d3 : U[19]?.getD undef = .pointer (some ⟨I, q, none⟩) := slot_of (hdep ⟨3, .data⟩ (by simp) rfl _ rfl) rfl
          refine step_of_run (v := msgV (ms q)) (w' := w1) ?_ ⟨rfl, _, rfl, (fun h => by cases h), rfl⟩
          simp [execOp, go_sem, d3, cI, cL, i1, i2]
        · have d4 : U[20]?.getD undef = msgV (ms q) := slot_of (hdep ⟨4, .data⟩ (by simp) rfl _ rfl) rfl
          refine step_of_call (f := 13) (args := #[msgV (ms q)]) (w' := w1) ?_ ((acode (ms q) w1).mono ?_)
          · simp [execOp, go_sem, d4]
          · rintro e w9 ⟨rfl, rfl⟩
            exact ⟨_, rfl, rfl, _, rfl, (fun h => by cases h), rfl⟩
        · exact absurd rfl e1
        · exact absurd rfl e2
        · exact absurd rfl e3
      · intro U2 w2 g2 hU2 hK2 h1 h2 h3 hall2
        have b1 : U2[1]'(by omega) = .slice (some ⟨I, 0, none⟩) (n + 1) (n + 1) := at_of _ (kept_of hK2 1 (by decide) (by simp [hT, a1]))
        have b2 : U2[2]'(by omega) = .pointer (some ⟨L, 0, none⟩) := at_of _ (kept_of hK2 2 (by decide) (by simp [hT, a2]))
        have b5 : U2[5]'(by omega) = .int .i64 q := at_of _ (kept_of hK2 5 (by decide) (by simp [hT, a5]))
        have M1 := hidP h1
        have M2 := hidP h2
        have M3 := hidP h3
        clear h1 h2 h3 hall2 hK2
        go_wp2_with fail
        refine ⟨trivial, k - 1, by omega, q + 1, by omega, by omega, by simp [hU2], by simp [hU2, b1], by simp [hU2, b2], by simp [hU2], g2, ?_, K2.out.trans M2.out K3.out.size, K3.out.log K2.out M3.out⟩
        have := M1.out
        rw [List.append_assoc] at this
        have e3 : q + 1 - 1 = (q - 1) + 1 := by omega
        rw [e3, List.range_succ, List.map_append]
        have e4 : q - 1 + 1 = q := by omega
        simpa [e4] using this
    · have hjn : q - 1 = n := by have := of_decide_eq_false h; omega
      clear h
      go_wp2_with fail
      exact bodyPost_end (v := .tuple #[]) (by simp [results, Yba.results12]) rfl ⟨rfl, g1, by have := K1.out; rwa [hjn] at this, K2.out, K3.out⟩
  · refine ⟨1, by omega, by omega, rfl, rfl, rfl, by simp, some gg, ?_, N2.out, N3.out⟩
    simpa using N1.out

end Go.Proofs.Ybulkcawy
