/-
  zzs3859aproc's Receive.
-/
import Derived.Test.YbulkcawyProc
namespace Go.Proofs.Ybulkcawy
open Go.RowKit
set_option linter.unusedSimpArgs false
set_option linter.unusedVariables false
set_option maxRecDepth 100000
set_option maxHeartbeats 2000000


theorem receive (A L base id dec got : Nat) (xs : List Int) (g : Option Nat) (w : World) (hA : Row w A 67 4 (aprocM id dec got L)) (hAL : A ≠ L) (hAb : A < base) (hL : L < base) (hbase : base ≤ w.heap.size) (hlog : LogAt w base L xs g) (hlen : xs.length ≤ 900000) (hid : id ≤ 1000) (r I n : Nat) (ms : Nat → Option Int) (hr : r ≤ 1000) (hn : n ≤ 1000) (hI : Row w I 20 n (fun k => msgV (ms k))) (hIb : I < base) (hIL : I ≠ L) (hIA : I ≠ A) (hgot : got ≤ 1000) :
    Calls Yba.prog 63 #[.pointer (some ⟨A, 0, none⟩), .int .i64 r, .slice (some ⟨I, 0, none⟩) n n] w fun e w' => e = .returned (.tuple #[]) ∧ ∃ g', LogAt w' base L (xs ++ [(id : Int), (r : Int)] ++ (List.range n).map (fun k => codeOf (ms k))) g' ∧ NewG w g g' ∧ Row w' A 67 4 (aprocM id dec (got + 1) L) ∧ Only (fun b => LogS L g b ∨ b = A) w w' := by
  have hlog' := hlog
  obtain ⟨v0, hrow, hown, hg0⟩ := hlog'
  have hAg : ¬ LogS L g A := by
    rintro (h | h)
    · exact hAL h
    · have := hlog.block_lt h
      omega
  have hIg : ¬ LogS L g I := by
    rintro (h | h)
    · exact hIL h
    · have := hlog.block_lt h
      omega
  refine calls_of_wp Yba.func63 rfl ?_
  simp only [Yba.ntmps63, List.size_toArray, List.length_cons, List.length_nil, Nat.reduceAdd, Nat.reduceSub, Array.replicate_succ, Array.replicate_zero, List.push_toArray, List.append_toArray, List.nil_append, List.cons_append]
  have HA := hidP hA
  have HI := hidP hI
  have HLOG := hidP hlog
  have HROW := hidP hrow
  clear hA hlog hrow hown hI
  go_wp2_with fail
  refine region_log _ 55 (by first | rfl | assumption) [some (.pointer (some ⟨A, 0, none⟩)), some (.pointer (some ⟨A, 0, none⟩)), some (.pointer (some ⟨A, 3, none⟩)), some (.pointer (some ⟨L, 0, none⟩)), some (.pointer (some ⟨A, 0, none⟩)), some (.pointer (some ⟨A, 0, none⟩)), some (.pointer (some ⟨A, 3, none⟩)), some (.pointer (some ⟨L, 0, none⟩)), some (.pointer (some ⟨L, 0, none⟩)), some (v0), some (.pointer (some ⟨A, 0, none⟩)), some (.pointer (some ⟨A, 0, none⟩)), some (.pointer (some ⟨A, 0, none⟩)), some (.int .i64 id), some (.int .i64 r), none, none, some (.pointer (some ⟨L, 0, none⟩)), none] 9 15 16 18 xs [(id : Int), (r : Int)] base L g w HLOG.out hL hbase (by simp) (by simp; omega) (by decide) (by decide) (by decide) (by decide) rfl rfl rfl 17 23 24 25 rfl rfl rfl rfl rfl rfl (by decide) (by decide) (by decide) (by decide) rfl rfl rfl ?_ ?_ ?_ ?_ ?_
  · intro U hU hK hdep
    exact slot_of (hdep ⟨17, .data⟩ (by simp) rfl _ rfl) rfl
  · intro v h
    have h1 := h.cell 0 (by omega)
    have h2 := (HROW.out).cell 0 (by omega)
    rw [h1] at h2
    simpa using h2.symm
  · intro U w1 hU hK hdep
    have d13 : U[21]?.getD undef = .int .i64 id := slot_of (hdep ⟨13, .data⟩ (by simp) rfl _ rfl) rfl
    have d14 : U[22]?.getD undef = .int .i64 r := slot_of (hdep ⟨14, .data⟩ (by simp) rfl _ rfl) rfl
    simp [execOp, go_sem, intsV, d13, d14]
  · intro i hi l U w1 e1 e2 e3 hls hU hK hon hrw hdep
    have cA3 : w1.cell? ⟨A, 3, none⟩ = some (.pointer (some ⟨L, 0, none⟩)) := (HA.out.only hon hAg).cell 3 (by omega)
    have cA0 : w1.cell? ⟨A, 0, none⟩ = some (.int .i64 id) := (HA.out.only hon hAg).cell 0 (by omega)
    have cL : w1.cell? ⟨L, 0, none⟩ = some v0 := (hrw v0 HROW.out).cell 0 (by omega)
    have hu0 : U[0]?.getD undef = .pointer (some ⟨A, 0, none⟩) := kept_of hK 0 (by decide) (by first | rfl | assumption | simp_all)
    have hu1 : U[1]?.getD undef = .int .i64 r := kept_of hK 1 (by decide) (by first | rfl | assumption | simp_all)
    have hi' : i < 19 := hi
    rcases (by omega : i = 0 ∨ i = 1 ∨ i = 2 ∨ i = 3 ∨ i = 4 ∨ i = 5 ∨ i = 6 ∨ i = 7 ∨ i = 8 ∨ i = 9 ∨ i = 10 ∨ i = 11 ∨ i = 12 ∨ i = 13 ∨ i = 14 ∨ i = 15 ∨ i = 16 ∨ i = 17 ∨ i = 18) with rfl | rfl | rfl | rfl | rfl | rfl | rfl | rfl | rfl | rfl | rfl | rfl | rfl | rfl | rfl | rfl | rfl | rfl | rfl
    · refine step_of_run (v := .pointer (some ⟨A, 0, none⟩)) (w' := w1) ?_ ⟨rfl, _, rfl, (fun h => by cases h), rfl⟩
      simp [execOp, go_sem, hu0, cA0, cA3, cL]
    · have d0 : U[8]?.getD undef = .pointer (some ⟨A, 0, none⟩) := slot_of (hdep ⟨0, .data⟩ (by simp) rfl _ rfl) rfl
      refine step_of_run (v := .pointer (some ⟨A, 0, none⟩)) (w' := w1) ?_ ⟨rfl, _, rfl, (fun h => by cases h), rfl⟩
      simp [execOp, go_sem, d0, cA0, cA3, cL]
    · have d1 : U[9]?.getD undef = .pointer (some ⟨A, 0, none⟩) := slot_of (hdep ⟨1, .data⟩ (by simp) rfl _ rfl) rfl
      refine step_of_run (v := .pointer (some ⟨A, 3, none⟩)) (w' := w1) ?_ ⟨rfl, _, rfl, (fun h => by cases h), rfl⟩
      simp [execOp, go_sem, d1, cA0, cA3, cL]
    · have d2 : U[10]?.getD undef = .pointer (some ⟨A, 3, none⟩) := slot_of (hdep ⟨2, .data⟩ (by simp) rfl _ rfl) rfl
      refine step_of_run (v := .pointer (some ⟨L, 0, none⟩)) (w' := w1) ?_ ⟨rfl, _, rfl, (fun h => by cases h), rfl⟩
      simp [execOp, go_sem, d2, cA0, cA3, cL]
    · refine step_of_run (v := .pointer (some ⟨A, 0, none⟩)) (w' := w1) ?_ ⟨rfl, _, rfl, (fun h => by cases h), rfl⟩
      simp [execOp, go_sem, hu0, cA0, cA3, cL]
    · have d4 : U[12]?.getD undef = .pointer (some ⟨A, 0, none⟩) := slot_of (hdep ⟨4, .data⟩ (by simp) rfl _ rfl) rfl
      refine step_of_run (v := .pointer (some ⟨A, 0, none⟩)) (w' := w1) ?_ ⟨rfl, _, rfl, (fun h => by cases h), rfl⟩
      simp [execOp, go_sem, d4, cA0, cA3, cL]
    · have d5 : U[13]?.getD undef = .pointer (some ⟨A, 0, none⟩) := slot_of (hdep ⟨5, .data⟩ (by simp) rfl _ rfl) rfl
      refine step_of_run (v := .pointer (some ⟨A, 3, none⟩)) (w' := w1) ?_ ⟨rfl, _, rfl, (fun h => by cases h), rfl⟩
      simp [execOp, go_sem, d5, cA0, cA3, cL]
    · have d6 : U[14]?.getD undef = .pointer (some ⟨A, 3, none⟩) := slot_of (hdep ⟨6, .data⟩ (by simp) rfl _ rfl) rfl
      refine step_of_run (v := .pointer (some ⟨L, 0, none⟩)) (w' := w1) ?_ ⟨rfl, _, rfl, (fun h => by cases h), rfl⟩
      simp [execOp, go_sem, d6, cA0, cA3, cL]
    · have d7 : U[15]?.getD undef = .pointer (some ⟨L, 0, none⟩) := slot_of (hdep ⟨7, .data⟩ (by simp) rfl _ rfl) rfl
      refine step_of_run (v := .pointer (some ⟨L, 0, none⟩)) (w' := w1) ?_ ⟨rfl, _, rfl, (fun h => by cases h), rfl⟩
      simp [execOp, go_sem, d7, cA0, cA3, cL]
    · have d8 : U[16]?.getD undef = .pointer (some ⟨L, 0, none⟩) := slot_of (hdep ⟨8, .data⟩ (by simp) rfl _ rfl) rfl
      refine step_of_run (v := v0) (w' := w1) ?_ ⟨rfl, _, rfl, (fun h => by cases h), rfl⟩
      simp [execOp, go_sem, d8, cA0, cA3, cL]
    · refine step_of_run (v := .pointer (some ⟨A, 0, none⟩)) (w' := w1) ?_ ⟨rfl, _, rfl, (fun h => by cases h), rfl⟩
      simp [execOp, go_sem, hu0, cA0, cA3, cL]
    · have d10 : U[18]?.getD undef = .pointer (some ⟨A, 0, none⟩) := slot_of (hdep ⟨10, .data⟩ (by simp) rfl _ rfl) rfl
      refine step_of_run (v := .pointer (some ⟨A, 0, none⟩)) (w' := w1) ?_ ⟨rfl, _, rfl, (fun h => by cases h), rfl⟩
      simp [execOp, go_sem, d10, cA0, cA3, cL]
    · have d11 : U[19]?.getD undef = .pointer (some ⟨A, 0, none⟩) := slot_of (hdep ⟨11, .data⟩ (by simp) rfl _ rfl) rfl
      refine step_of_run (v := .pointer (some ⟨A, 0, none⟩)) (w' := w1) ?_ ⟨rfl, _, rfl, (fun h => by cases h), rfl⟩
      simp [execOp, go_sem, d11, cA0, cA3, cL]
    · have d12 : U[20]?.getD undef = .pointer (some ⟨A, 0, none⟩) := slot_of (hdep ⟨12, .data⟩ (by simp) rfl _ rfl) rfl
      refine step_of_run (v := .int .i64 id) (w' := w1) ?_ ⟨rfl, _, rfl, (fun h => by cases h), rfl⟩
      simp [execOp, go_sem, d12, cA0, cA3, cL]
    · refine step_of_run (v := .int .i64 r) (w' := w1) ?_ ⟨rfl, _, rfl, (fun h => by cases h), rfl⟩
      simp [execOp, go_sem, hu1, cA0, cA3, cL]
    · exact absurd rfl e1
    · exact absurd rfl e2
    · have d3 : U[11]?.getD undef = .pointer (some ⟨L, 0, none⟩) := slot_of (hdep ⟨3, .data⟩ (by simp) rfl _ rfl) rfl
      refine step_of_run (v := .pointer (some ⟨L, 0, none⟩)) (w' := w1) ?_ ⟨rfl, _, rfl, (fun h => by cases h), rfl⟩
      simp [execOp, go_sem, d3, cA0, cA3, cL]
    · exact absurd rfl e3
  · intro U w' g' hU hK h1 h2 h3 hall
    have hu0 : U[0]'(by omega) = .pointer (some ⟨A, 0, none⟩) := at_of _ (kept_of hK 0 (by decide) rfl)
    have hu2 : U[2]'(by omega) = .slice (some ⟨I, 0, none⟩) n n := at_of _ (kept_of hK 2 (by decide) rfl)
    have H1 := hidP h1
    have H2 := hidP h2
    have H3 := hidP h3
    clear h1 h2 h3 hall hK HLOG HROW hg0 v0
    go_wp2_with fail
    refine wp_loop_n (fun k T wr => ∃ j, j + k = n ∧ T.size = 55 ∧ T[0]?.getD undef = .pointer (some ⟨A, 0, none⟩) ∧ T[26]?.getD undef = .slice (some ⟨I, 0, none⟩) n n ∧ T[27]?.getD undef = .int .i64 n ∧ T[28]?.getD undef = .int .i64 j ∧ ∃ g1, LogAt wr base L (xs ++ [(id : Int), (r : Int)] ++ (List.range j).map (fun k => codeOf (ms k))) g1 ∧ NewG w g g1 ∧ Only (LogS L g) w wr) ?_ n _ _ ?_
    · rintro k T wr ⟨j, hjk, hT, t0, t26, t27, t28, g1, k1, k2, k3⟩
      have a0 : T[0]'(by omega) = _ := at_of _ t0
      have a26 : T[26]'(by omega) = _ := at_of _ t26
      have a27 : T[27]'(by omega) = _ := at_of _ t27
      have a28 : T[28]'(by omega) = _ := at_of _ t28
      have K1 := hidP k1
      have K2 := hidP k2
      have K3 := hidP k3
      clear k1 k2 k3 t0 t26 t27 t28
      go_wp2_with fail
      refine wp_cond_at (decide (j < n)) (by simp [Act.eval, hT]) (fun h => ?_) (fun h => ?_)
      · have hjn : j < n := of_decide_eq_true h
        have i1 : (0 : Int) ≤ (j : Int) := by omega
        have i2 : (j : Int) < (n : Int) := by omega
        have cI : wr.cell? ⟨I, j, none⟩ = some (msgV (ms j)) := (HI.out.only K3.out hIg).cell j hjn
        clear h
        go_wp2_with fail
        have hAg1 : ¬ LogS L g1 A := by
          rintro (h | h)
          · exact hAL h
          · have := K1.out.block_lt h
            omega
        have hAr := hidP (HA.out.only K3.out hAg)
        obtain ⟨v0, hrow, hown, hg0⟩ := K1.out
        have HROW := hidP hrow
        clear hrow hown
        have hlen1 : (xs ++ [(id : Int), (r : Int)] ++ (List.range j).map (fun k => codeOf (ms k))).length ≤ 910000 := by simp; omega
        have hbase1 : base ≤ wr.heap.size := by have := K3.out.size; omega
        refine region_log _ 55 (by simp [hT]) [some (.pointer (some ⟨A, 0, none⟩)), some (.pointer (some ⟨A, 0, none⟩)), some (.pointer (some ⟨A, 3, none⟩)), some (.pointer (some ⟨L, 0, none⟩)), some (.pointer (some ⟨A, 0, none⟩)), some (.pointer (some ⟨A, 0, none⟩)), some (.pointer (some ⟨A, 3, none⟩)), some (.pointer (some ⟨L, 0, none⟩)), some (.pointer (some ⟨L, 0, none⟩)), some (v0), some (msgV (ms j)), some (.int .i64 (codeOf (ms j))), none, none, some (.pointer (some ⟨L, 0, none⟩)), none] 9 12 13 15 (xs ++ [(id : Int), (r : Int)] ++ (List.range j).map (fun k => codeOf (ms k))) [codeOf (ms j)] base L g1 wr K1.out hL hbase1 (by simp) (by simp only [List.length_cons, List.length_nil]; omega) (by decide) (by decide) (by decide) (by decide) rfl rfl rfl 41 44 45 46 rfl rfl rfl rfl rfl rfl (by decide) (by decide) (by decide) (by decide) rfl rfl rfl ?_ ?_ ?_ ?_ ?_
        · intro U hU hK hdep
          exact slot_of (hdep ⟨14, .data⟩ (by simp) rfl _ rfl) rfl
        · intro v h
          have h1 := h.cell 0 (by omega)
          have h2 := (HROW.out).cell 0 (by omega)
          rw [h1] at h2
          simpa using h2.symm
        · intro U w1 hU hK hdep
          have d11 : U[43]?.getD undef = .int .i64 (codeOf (ms j)) := slot_of (hdep ⟨11, .data⟩ (by simp) rfl _ rfl) rfl
          simp [execOp, go_sem, intsV, d11]
        · intro i hi l U w1 e1 e2 e3 hls hU hK hon hrw hdep
          have cA3 : w1.cell? ⟨A, 3, none⟩ = some (.pointer (some ⟨L, 0, none⟩)) := (hAr.out.only hon hAg1).cell 3 (by omega)
          have cA0 : w1.cell? ⟨A, 0, none⟩ = some (.int .i64 id) := (hAr.out.only hon hAg1).cell 0 (by omega)
          have cL : w1.cell? ⟨L, 0, none⟩ = some v0 := (hrw v0 HROW.out).cell 0 (by omega)
          have hu0 : U[0]?.getD undef = .pointer (some ⟨A, 0, none⟩) := kept_of hK 0 (by decide) (by simp [hT, a0])
          have hu7 : U[7]?.getD undef = msgV (ms j) := kept_of hK 7 (by decide) (by simp [hT, a0])
          have hi' : i < 16 := hi
          rcases (by omega : i = 0 ∨ i = 1 ∨ i = 2 ∨ i = 3 ∨ i = 4 ∨ i = 5 ∨ i = 6 ∨ i = 7 ∨ i = 8 ∨ i = 9 ∨ i = 10 ∨ i = 11 ∨ i = 12 ∨ i = 13 ∨ i = 14 ∨ i = 15) with rfl | rfl | rfl | rfl | rfl | rfl | rfl | rfl | rfl | rfl | rfl | rfl | rfl | rfl | rfl | rfl
          · refine step_of_run (v := .pointer (some ⟨A, 0, none⟩)) (w' := w1) ?_ ⟨rfl, _, rfl, (fun h => by cases h), rfl⟩
            simp [execOp, go_sem, hu0, cA0, cA3, cL]
          · have d0 : U[32]?.getD undef = .pointer (some ⟨A, 0, none⟩) := slot_of (hdep ⟨0, .data⟩ (by simp) rfl _ rfl) rfl
            refine step_of_run (v := .pointer (some ⟨A, 0, none⟩)) (w' := w1) ?_ ⟨rfl, _, rfl, (fun h => by cases h), rfl⟩
            simp [execOp, go_sem, d0, cA0, cA3, cL]
          · have d1 : U[33]?.getD undef = .pointer (some ⟨A, 0, none⟩) := slot_of (hdep ⟨1, .data⟩ (by simp) rfl _ rfl) rfl
            refine step_of_run (v := .pointer (some ⟨A, 3, none⟩)) (w' := w1) ?_ ⟨rfl, _, rfl, (fun h => by cases h), rfl⟩
            simp [execOp, go_sem, d1, cA0, cA3, cL]
          · have d2 : U[34]?.getD undef = .pointer (some ⟨A, 3, none⟩) := slot_of (hdep ⟨2, .data⟩ (by simp) rfl _ rfl) rfl
            refine step_of_run (v := .pointer (some ⟨L, 0, none⟩)) (w' := w1) ?_ ⟨rfl, _, rfl, (fun h => by cases h), rfl⟩
            simp [execOp, go_sem, d2, cA0, cA3, cL]
          · refine step_of_run (v := .pointer (some ⟨A, 0, none⟩)) (w' := w1) ?_ ⟨rfl, _, rfl, (fun h => by cases h), rfl⟩
            simp [execOp, go_sem, hu0, cA0, cA3, cL]
          · have d4 : U[36]?.getD undef = .pointer (some ⟨A, 0, none⟩) := slot_of (hdep ⟨4, .data⟩ (by simp) rfl _ rfl) rfl
            refine step_of_run (v := .pointer (some ⟨A, 0, none⟩)) (w' := w1) ?_ ⟨rfl, _, rfl, (fun h => by cases h), rfl⟩
            simp [execOp, go_sem, d4, cA0, cA3, cL]
          · have d5 : U[37]?.getD undef = .pointer (some ⟨A, 0, none⟩) := slot_of (hdep ⟨5, .data⟩ (by simp) rfl _ rfl) rfl
            refine step_of_run (v := .pointer (some ⟨A, 3, none⟩)) (w' := w1) ?_ ⟨rfl, _, rfl, (fun h => by cases h), rfl⟩
            simp [execOp, go_sem, d5, cA0, cA3, cL]
          · have d6 : U[38]?.getD undef = .pointer (some ⟨A, 3, none⟩) := slot_of (hdep ⟨6, .data⟩ (by simp) rfl _ rfl) rfl
            refine step_of_run (v := .pointer (some ⟨L, 0, none⟩)) (w' := w1) ?_ ⟨rfl, _, rfl, (fun h => by cases h), rfl⟩
            simp [execOp, go_sem, d6, cA0, cA3, cL]
          · have d7 : U[39]?.getD undef = .pointer (some ⟨L, 0, none⟩) := slot_of (hdep ⟨7, .data⟩ (by simp) rfl _ rfl) rfl
            refine step_of_run (v := .pointer (some ⟨L, 0, none⟩)) (w' := w1) ?_ ⟨rfl, _, rfl, (fun h => by cases h), rfl⟩
            simp [execOp, go_sem, d7, cA0, cA3, cL]
          · have d8 : U[40]?.getD undef = .pointer (some ⟨L, 0, none⟩) := slot_of (hdep ⟨8, .data⟩ (by simp) rfl _ rfl) rfl
            refine step_of_run (v := v0) (w' := w1) ?_ ⟨rfl, _, rfl, (fun h => by cases h), rfl⟩
            simp [execOp, go_sem, d8, cA0, cA3, cL]
          · refine step_of_run (v := msgV (ms j)) (w' := w1) ?_ ⟨rfl, _, rfl, (fun h => by cases h), rfl⟩
            simp [execOp, go_sem, hu7, cA0, cA3, cL]
          · have d10 : U[42]?.getD undef = msgV (ms j) := slot_of (hdep ⟨10, .data⟩ (by simp) rfl _ rfl) rfl
            refine step_of_call (f := 13) (args := #[msgV (ms j)]) (w' := w1) ?_ ((acode (ms j) w1).mono ?_)
            · simp [execOp, go_sem, d10]
            · rintro e w9 ⟨rfl, rfl⟩
              exact ⟨_, rfl, rfl, _, rfl, (fun h => by cases h), rfl⟩
          · exact absurd rfl e1
          · exact absurd rfl e2
          · have d3 : U[35]?.getD undef = .pointer (some ⟨L, 0, none⟩) := slot_of (hdep ⟨3, .data⟩ (by simp) rfl _ rfl) rfl
            refine step_of_run (v := .pointer (some ⟨L, 0, none⟩)) (w' := w1) ?_ ⟨rfl, _, rfl, (fun h => by cases h), rfl⟩
            simp [execOp, go_sem, d3, cA0, cA3, cL]
          · exact absurd rfl e3
        · intro U2 w2 g2 hU2 hK2 h1 h2 h3 hall2
          have b0 : U2[0]'(by omega) = .pointer (some ⟨A, 0, none⟩) := at_of _ (kept_of hK2 0 (by decide) (by simp [hT, a0]))
          have b26 : U2[26]'(by omega) = .slice (some ⟨I, 0, none⟩) n n := at_of _ (kept_of hK2 26 (by decide) (by simp [hT, a26]))
          have b27 : U2[27]'(by omega) = .int .i64 n := at_of _ (kept_of hK2 27 (by decide) (by simp [hT, a27]))
          have b28 : U2[28]'(by omega) = .int .i64 j := at_of _ (kept_of hK2 28 (by decide) (by simp [hT, a28]))
          have M1 := hidP h1
          have M2 := hidP h2
          have M3 := hidP h3
          clear h1 h2 h3 hall2 hK2
          go_wp2_with fail
          refine ⟨trivial, k - 1, by omega, j + 1, by omega, by simp [hU2], by simp [hU2, b0], by simp [hU2, b26], by simp [hU2, b27], by simp [hU2], g2, ?_, K2.out.trans M2.out K3.out.size, K3.out.log K2.out M3.out⟩
          have := M1.out
          rw [List.append_assoc] at this
          rw [List.range_succ, List.map_append]
          exact this
      · have hjn : j = n := by have := of_decide_eq_false h; omega
        clear h
        subst hjn
        have hAr := hidP (HA.out.only K3.out hAg)
        have cA2 : wr.cell? ⟨A, 2, none⟩ = some (.int .i64 got) := hAr.out.cell 2 (by omega)
        have fA2 : wr.frozen? ⟨A, 2, none⟩ = false := hAr.out.frozen 2
        go_wp2_with fail
        have hone : Only (fun b => b = A) wr (wr.setCell ⟨A, 2, none⟩ (.int .i64 ((got : Int) + 1))) := Only.setCell (S := fun b => b = A) Only.refl (p := ⟨A, 2, none⟩) (fun _ => rfl) _
        refine bodyPost_end (v := .tuple #[]) (by simp [results, Yba.results63]) rfl ⟨rfl, g1, ?_, K2.out, ?_, ?_⟩
        · exact K1.out.only hone (fun h => hAL h.symm) (fun b hb h => by have := K1.out.block_lt hb; omega)
        · refine (hAr.out.set 2 _).ext fun q hq => ?_
          have : q = 0 ∨ q = 1 ∨ q = 2 ∨ q = 3 := by omega
          rcases this with rfl | rfl | rfl | rfl <;> simp [aprocM]
        · exact (K3.out.mono (fun _ _ h => .inl h)).trans' hone (fun b _ h => .inr h)
    · refine ⟨0, by omega, by simp [hU], by simp [hU, hu0], by simp [hU], by simp [hU], by simp [hU], g', ?_, H2.out, H3.out⟩
      simpa using H1.out

end Go.Proofs.Ybulkcawy
