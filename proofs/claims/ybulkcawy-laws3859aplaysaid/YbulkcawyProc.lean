/-
  What the law's own process type does: zzs3859aproc's methods, and the small codes.
-/
import Derived.Test.YbulkcawyLog
import Derived.Test.YbulkcawyChain
import Derived.Stop.IfaceNil
namespace Go.Proofs.Ybulkcawy
open Go.RowKit
set_option linter.unusedSimpArgs false
set_option linter.unusedVariables false
set_option maxRecDepth 100000
set_option maxHeartbeats 2000000

theorem hidP {p : Prop} (h : p) : Hid p := h

theorem message (r : Nat) (hr : r ≤ 1000) (A L base id dec got : Nat) (xs : List Int) (g : Option Nat) (w : World) (hA : Row w A 67 4 (aprocM id dec got L)) (hAL : A ≠ L) (hAb : A < base) (hL : L < base) (hbase : base ≤ w.heap.size) (hlog : LogAt w base L xs g) (hlen : xs.length ≤ 900000) (hid : id ≤ 1000) :
    Calls Yba.prog 61 #[.pointer (some ⟨A, 0, none⟩), .int .i64 r] w fun e w' => e = .returned (.iface 3 (.int .i64 ((id : Int) * 100 + r))) ∧ ∃ g', LogAt w' base L (xs ++ [-3, (id : Int), (r : Int)]) g' ∧ NewG w g g' ∧ Only (LogS L g) w w' := by
  have hlog' := hlog
  obtain ⟨v0, hrow, hown, hg0⟩ := hlog'
  have hAg : ¬ LogS L g A := by
    rintro (h | h)
    · exact hAL h
    · have := hlog.block_lt h
      omega
  refine calls_of_wp Yba.func61 rfl ?_
  simp only [Yba.ntmps61, List.size_toArray, List.length_cons, List.length_nil, Nat.reduceAdd, Nat.reduceSub, Array.replicate_succ, Array.replicate_zero, List.push_toArray, List.append_toArray, List.nil_append, List.cons_append]
  have HA := hidP hA
  have HLOG := hidP hlog
  have HROW := hidP hrow
  clear hA hlog hrow hown
  go_wp2_with fail
  refine region_log _ 31 (by first | rfl | assumption) [some (.pointer (some ⟨A, 0, none⟩)), some (.pointer (some ⟨A, 0, none⟩)), some (.pointer (some ⟨A, 3, none⟩)), some (.pointer (some ⟨L, 0, none⟩)), some (.pointer (some ⟨A, 0, none⟩)), some (.pointer (some ⟨A, 0, none⟩)), some (.pointer (some ⟨A, 3, none⟩)), some (.pointer (some ⟨L, 0, none⟩)), some (.pointer (some ⟨L, 0, none⟩)), some (v0), some (.pointer (some ⟨A, 0, none⟩)), some (.pointer (some ⟨A, 0, none⟩)), some (.pointer (some ⟨A, 0, none⟩)), some (.int .i64 id), some (.int .i64 r), none, none, some (.pointer (some ⟨L, 0, none⟩)), none] 9 15 16 18 xs [-3, (id : Int), (r : Int)] base L g w HLOG.out hL hbase (by simp) (by simp; omega) (by decide) (by decide) (by decide) (by decide) rfl rfl rfl 14 20 21 22 rfl rfl rfl rfl rfl rfl (by decide) (by decide) (by decide) (by decide) rfl rfl rfl ?_ ?_ ?_ ?_ ?_
  · intro U hU hK hdep
    exact slot_of (hdep ⟨17, .data⟩ (by simp) rfl _ rfl) rfl
  · intro v h
    have h1 := h.cell 0 (by omega)
    have h2 := (HROW.out).cell 0 (by omega)
    rw [h1] at h2
    simpa using h2.symm
  · intro U w1 hU hK hdep
    have d13 : U[18]?.getD undef = .int .i64 id := slot_of (hdep ⟨13, .data⟩ (by simp) rfl _ rfl) rfl
    have d14 : U[19]?.getD undef = .int .i64 r := slot_of (hdep ⟨14, .data⟩ (by simp) rfl _ rfl) rfl
    simp [execOp, go_sem, intsV, d13, d14]
  · intro i hi l U w1 e1 e2 e3 hls hU hK hon hrw hdep
    have cA3 : w1.cell? ⟨A, 3, none⟩ = some (.pointer (some ⟨L, 0, none⟩)) := (HA.out.only hon hAg).cell 3 (by omega)
    have cA0 : w1.cell? ⟨A, 0, none⟩ = some (.int .i64 id) := (HA.out.only hon hAg).cell 0 (by omega)
    have cL : w1.cell? ⟨L, 0, none⟩ = some v0 := (hrw v0 HROW.out).cell 0 (by omega)
    have hu0 : U[0]?.getD undef = .pointer (some ⟨A, 0, none⟩) := kept_of hK 0 (by decide) (by first | rfl | assumption | simp_all)
    have hu1 : U[1]?.getD undef = .int .i64 r := kept_of hK 1 (by decide) (by first | rfl | assumption | simp_all)
    have hi' : i < 19 := hi
    rcases (by omega : i = 0 ∨ i = 1 ∨ i = 2 ∨ i = 3 ∨ i = 4 ∨ i = 5 ∨ i = 6 ∨ i = 7 ∨ i = 8 ∨ i = 9 ∨ i = 10 ∨ i = 11 ∨ i = 12 ∨ i = 13 ∨ i = 14 ∨ i = 15 ∨ i = 16 ∨ i = 17 ∨ i = 18) with rfl | rfl | rfl | rfl | rfl | rfl | rfl | rfl | rfl | rfl | rfl | rfl | rfl | rfl | rfl | rfl | rfl | rfl | rfl
    · refine step_of_run (v := .pointer (some ⟨A, 0, none⟩)) (w' := w1) ?_ ⟨rfl, _, rfl, (fun h => by cases h), rfl⟩
      simp [execOp, go_sem, hu0, cA0, cA3, cL]
    · have d0 : U[5]?.getD undef = .pointer (some ⟨A, 0, none⟩) := slot_of (hdep ⟨0, .data⟩ (by simp) rfl _ rfl) rfl
      refine step_of_run (v := .pointer (some ⟨A, 0, none⟩)) (w' := w1) ?_ ⟨rfl, _, rfl, (fun h => by cases h), rfl⟩
      simp [execOp, go_sem, d0, cA0, cA3, cL]
    · have d1 : U[6]?.getD undef = .pointer (some ⟨A, 0, none⟩) := slot_of (hdep ⟨1, .data⟩ (by simp) rfl _ rfl) rfl
      refine step_of_run (v := .pointer (some ⟨A, 3, none⟩)) (w' := w1) ?_ ⟨rfl, _, rfl, (fun h => by cases h), rfl⟩
      simp [execOp, go_sem, d1, cA0, cA3, cL]
    · have d2 : U[7]?.getD undef = .pointer (some ⟨A, 3, none⟩) := slot_of (hdep ⟨2, .data⟩ (by simp) rfl _ rfl) rfl
      refine step_of_run (v := .pointer (some ⟨L, 0, none⟩)) (w' := w1) ?_ ⟨rfl, _, rfl, (fun h => by cases h), rfl⟩
      simp [execOp, go_sem, d2, cA0, cA3, cL]
    · refine step_of_run (v := .pointer (some ⟨A, 0, none⟩)) (w' := w1) ?_ ⟨rfl, _, rfl, (fun h => by cases h), rfl⟩
      simp [execOp, go_sem, hu0, cA0, cA3, cL]
    · have d4 : U[9]?.getD undef = .pointer (some ⟨A, 0, none⟩) := slot_of (hdep ⟨4, .data⟩ (by simp) rfl _ rfl) rfl
      refine step_of_run (v := .pointer (some ⟨A, 0, none⟩)) (w' := w1) ?_ ⟨rfl, _, rfl, (fun h => by cases h), rfl⟩
      simp [execOp, go_sem, d4, cA0, cA3, cL]
    · have d5 : U[10]?.getD undef = .pointer (some ⟨A, 0, none⟩) := slot_of (hdep ⟨5, .data⟩ (by simp) rfl _ rfl) rfl
      refine step_of_run (v := .pointer (some ⟨A, 3, none⟩)) (w' := w1) ?_ ⟨rfl, _, rfl, (fun h => by cases h), rfl⟩
      simp [execOp, go_sem, d5, cA0, cA3, cL]
    · have d6 : U[11]?.getD undef = .pointer (some ⟨A, 3, none⟩) := slot_of (hdep ⟨6, .data⟩ (by simp) rfl _ rfl) rfl
      refine step_of_run (v := .pointer (some ⟨L, 0, none⟩)) (w' := w1) ?_ ⟨rfl, _, rfl, (fun h => by cases h), rfl⟩
      simp [execOp, go_sem, d6, cA0, cA3, cL]
    · have d7 : U[12]?.getD undef = .pointer (some ⟨L, 0, none⟩) := slot_of (hdep ⟨7, .data⟩ (by simp) rfl _ rfl) rfl
      refine step_of_run (v := .pointer (some ⟨L, 0, none⟩)) (w' := w1) ?_ ⟨rfl, _, rfl, (fun h => by cases h), rfl⟩
      simp [execOp, go_sem, d7, cA0, cA3, cL]
    · have d8 : U[13]?.getD undef = .pointer (some ⟨L, 0, none⟩) := slot_of (hdep ⟨8, .data⟩ (by simp) rfl _ rfl) rfl
      refine step_of_run (v := v0) (w' := w1) ?_ ⟨rfl, _, rfl, (fun h => by cases h), rfl⟩
      simp [execOp, go_sem, d8, cA0, cA3, cL]
    · refine step_of_run (v := .pointer (some ⟨A, 0, none⟩)) (w' := w1) ?_ ⟨rfl, _, rfl, (fun h => by cases h), rfl⟩
      simp [execOp, go_sem, hu0, cA0, cA3, cL]
    · have d10 : U[15]?.getD undef = .pointer (some ⟨A, 0, none⟩) := slot_of (hdep ⟨10, .data⟩ (by simp) rfl _ rfl) rfl
      refine step_of_run (v := .pointer (some ⟨A, 0, none⟩)) (w' := w1) ?_ ⟨rfl, _, rfl, (fun h => by cases h), rfl⟩
      simp [execOp, go_sem, d10, cA0, cA3, cL]
    · have d11 : U[16]?.getD undef = .pointer (some ⟨A, 0, none⟩) := slot_of (hdep ⟨11, .data⟩ (by simp) rfl _ rfl) rfl
      refine step_of_run (v := .pointer (some ⟨A, 0, none⟩)) (w' := w1) ?_ ⟨rfl, _, rfl, (fun h => by cases h), rfl⟩
      simp [execOp, go_sem, d11, cA0, cA3, cL]
    · have d12 : U[17]?.getD undef = .pointer (some ⟨A, 0, none⟩) := slot_of (hdep ⟨12, .data⟩ (by simp) rfl _ rfl) rfl
      refine step_of_run (v := .int .i64 id) (w' := w1) ?_ ⟨rfl, _, rfl, (fun h => by cases h), rfl⟩
      simp [execOp, go_sem, d12, cA0, cA3, cL]
    · refine step_of_run (v := .int .i64 r) (w' := w1) ?_ ⟨rfl, _, rfl, (fun h => by cases h), rfl⟩
      simp [execOp, go_sem, hu1, cA0, cA3, cL]
    · exact absurd rfl e1
    · exact absurd rfl e2
    · have d3 : U[8]?.getD undef = .pointer (some ⟨L, 0, none⟩) := slot_of (hdep ⟨3, .data⟩ (by simp) rfl _ rfl) rfl
      refine step_of_run (v := .pointer (some ⟨L, 0, none⟩)) (w' := w1) ?_ ⟨rfl, _, rfl, (fun h => by cases h), rfl⟩
      simp [execOp, go_sem, d3, cA0, cA3, cL]
    · exact absurd rfl e3
  · intro U w' g' hU hK h1 h2 h3 hall
    have hu0 : U[0]'(by omega) = .pointer (some ⟨A, 0, none⟩) := at_of _ (kept_of hK 0 (by decide) rfl)
    have hu1 : U[1]'(by omega) = .int .i64 r := at_of _ (kept_of hK 1 (by decide) rfl)
    have cA0 : w'.cell? ⟨A, 0, none⟩ = some (.int .i64 id) := (HA.out.only h3 hAg).cell 0 (by omega)
    have H1 := hidP h1
    have H2 := hidP h2
    have H3 := hidP h3
    clear h1 h2 h3 hall hK
    go_wp2_with fail
    exact bodyPost_ret (v := _) (by simp [results, Yba.results61, hU]) rfl ⟨rfl, g', H1.out, H2.out, H3.out⟩

theorem core (A L base id dec got : Nat) (xs : List Int) (g : Option Nat) (w : World) (hA : Row w A 67 4 (aprocM id dec got L)) (hAL : A ≠ L) (hAb : A < base) (hL : L < base) (hbase : base ≤ w.heap.size) (hlog : LogAt w base L xs g) (hlen : xs.length ≤ 900000) (hid : id ≤ 1000) :
    Calls Yba.prog 59 #[.pointer (some ⟨A, 0, none⟩)] w fun e w' => ∃ b, e = .returned (.slice (some ⟨b, 0, none⟩) 1 1) ∧ w.heap.size ≤ b ∧ Row w' b 40 3 (fun k => if k = 0 then .int .i64 id else if k = 1 then .int .i64 got else .string ⟨#[107]⟩) ∧ ∃ g', LogAt w' base L (xs ++ [-6, (id : Int)]) g' ∧ NewG w g g' ∧ (∀ x, g' = some x → x ≠ b) ∧ Only (LogS L g) w w' := by
  have hlog' := hlog
  obtain ⟨v0, hrow, hown, hg0⟩ := hlog'
  have hAg : ¬ LogS L g A := by
    rintro (h | h)
    · exact hAL h
    · have := hlog.block_lt h
      omega
  refine calls_of_wp Yba.func59 rfl ?_
  simp only [Yba.ntmps59, List.size_toArray, List.length_cons, List.length_nil, Nat.reduceAdd, Nat.reduceSub, Array.replicate_succ, Array.replicate_zero, List.push_toArray, List.append_toArray, List.nil_append, List.cons_append]
  have HA := hidP hA
  have HLOG := hidP hlog
  have HROW := hidP hrow
  clear hA hlog hrow hown
  go_wp2_with fail
  refine region_log _ 30 (by first | rfl | assumption) [some (.pointer (some ⟨A, 0, none⟩)), some (.pointer (some ⟨A, 0, none⟩)), some (.pointer (some ⟨A, 3, none⟩)), some (.pointer (some ⟨L, 0, none⟩)), some (.pointer (some ⟨A, 0, none⟩)), some (.pointer (some ⟨A, 0, none⟩)), some (.pointer (some ⟨A, 3, none⟩)), some (.pointer (some ⟨L, 0, none⟩)), some (.pointer (some ⟨L, 0, none⟩)), some (v0), some (.pointer (some ⟨A, 0, none⟩)), some (.pointer (some ⟨A, 0, none⟩)), some (.pointer (some ⟨A, 0, none⟩)), some (.int .i64 id), none, none, some (.pointer (some ⟨L, 0, none⟩)), none] 9 14 15 17 xs [-6, (id : Int)] base L g w HLOG.out hL hbase (by simp) (by simp; omega) (by decide) (by decide) (by decide) (by decide) rfl rfl rfl 12 17 18 19 rfl rfl rfl rfl rfl rfl (by decide) (by decide) (by decide) (by decide) rfl rfl rfl ?_ ?_ ?_ ?_ ?_
  · intro U hU hK hdep
    exact slot_of (hdep ⟨16, .data⟩ (by simp) rfl _ rfl) rfl
  · intro v h
    have h1 := h.cell 0 (by omega)
    have h2 := (HROW.out).cell 0 (by omega)
    rw [h1] at h2
    simpa using h2.symm
  · intro U w1 hU hK hdep
    have d13 : U[16]?.getD undef = .int .i64 id := slot_of (hdep ⟨13, .data⟩ (by simp) rfl _ rfl) rfl
    simp [execOp, go_sem, intsV, d13]
  · intro i hi l U w1 e1 e2 e3 hls hU hK hon hrw hdep
    have cA3 : w1.cell? ⟨A, 3, none⟩ = some (.pointer (some ⟨L, 0, none⟩)) := (HA.out.only hon hAg).cell 3 (by omega)
    have cA0 : w1.cell? ⟨A, 0, none⟩ = some (.int .i64 id) := (HA.out.only hon hAg).cell 0 (by omega)
    have cL : w1.cell? ⟨L, 0, none⟩ = some v0 := (hrw v0 HROW.out).cell 0 (by omega)
    have hu0 : U[0]?.getD undef = .pointer (some ⟨A, 0, none⟩) := kept_of hK 0 (by decide) (by first | rfl | assumption | simp_all)
    have hi' : i < 18 := hi
    rcases (by omega : i = 0 ∨ i = 1 ∨ i = 2 ∨ i = 3 ∨ i = 4 ∨ i = 5 ∨ i = 6 ∨ i = 7 ∨ i = 8 ∨ i = 9 ∨ i = 10 ∨ i = 11 ∨ i = 12 ∨ i = 13 ∨ i = 14 ∨ i = 15 ∨ i = 16 ∨ i = 17) with rfl | rfl | rfl | rfl | rfl | rfl | rfl | rfl | rfl | rfl | rfl | rfl | rfl | rfl | rfl | rfl | rfl | rfl
    · refine step_of_run (v := .pointer (some ⟨A, 0, none⟩)) (w' := w1) ?_ ⟨rfl, _, rfl, (fun h => by cases h), rfl⟩
      simp [execOp, go_sem, hu0, cA0, cA3, cL]
    · have d0 : U[3]?.getD undef = .pointer (some ⟨A, 0, none⟩) := slot_of (hdep ⟨0, .data⟩ (by simp) rfl _ rfl) rfl
      refine step_of_run (v := .pointer (some ⟨A, 0, none⟩)) (w' := w1) ?_ ⟨rfl, _, rfl, (fun h => by cases h), rfl⟩
      simp [execOp, go_sem, d0, cA0, cA3, cL]
    · have d1 : U[4]?.getD undef = .pointer (some ⟨A, 0, none⟩) := slot_of (hdep ⟨1, .data⟩ (by simp) rfl _ rfl) rfl
      refine step_of_run (v := .pointer (some ⟨A, 3, none⟩)) (w' := w1) ?_ ⟨rfl, _, rfl, (fun h => by cases h), rfl⟩
      simp [execOp, go_sem, d1, cA0, cA3, cL]
    · have d2 : U[5]?.getD undef = .pointer (some ⟨A, 3, none⟩) := slot_of (hdep ⟨2, .data⟩ (by simp) rfl _ rfl) rfl
      refine step_of_run (v := .pointer (some ⟨L, 0, none⟩)) (w' := w1) ?_ ⟨rfl, _, rfl, (fun h => by cases h), rfl⟩
      simp [execOp, go_sem, d2, cA0, cA3, cL]
    · refine step_of_run (v := .pointer (some ⟨A, 0, none⟩)) (w' := w1) ?_ ⟨rfl, _, rfl, (fun h => by cases h), rfl⟩
      simp [execOp, go_sem, hu0, cA0, cA3, cL]
    · have d4 : U[7]?.getD undef = .pointer (some ⟨A, 0, none⟩) := slot_of (hdep ⟨4, .data⟩ (by simp) rfl _ rfl) rfl
      refine step_of_run (v := .pointer (some ⟨A, 0, none⟩)) (w' := w1) ?_ ⟨rfl, _, rfl, (fun h => by cases h), rfl⟩
      simp [execOp, go_sem, d4, cA0, cA3, cL]
    · have d5 : U[8]?.getD undef = .pointer (some ⟨A, 0, none⟩) := slot_of (hdep ⟨5, .data⟩ (by simp) rfl _ rfl) rfl
      refine step_of_run (v := .pointer (some ⟨A, 3, none⟩)) (w' := w1) ?_ ⟨rfl, _, rfl, (fun h => by cases h), rfl⟩
      simp [execOp, go_sem, d5, cA0, cA3, cL]
    · have d6 : U[9]?.getD undef = .pointer (some ⟨A, 3, none⟩) := slot_of (hdep ⟨6, .data⟩ (by simp) rfl _ rfl) rfl
      refine step_of_run (v := .pointer (some ⟨L, 0, none⟩)) (w' := w1) ?_ ⟨rfl, _, rfl, (fun h => by cases h), rfl⟩
      simp [execOp, go_sem, d6, cA0, cA3, cL]
    · have d7 : U[10]?.getD undef = .pointer (some ⟨L, 0, none⟩) := slot_of (hdep ⟨7, .data⟩ (by simp) rfl _ rfl) rfl
      refine step_of_run (v := .pointer (some ⟨L, 0, none⟩)) (w' := w1) ?_ ⟨rfl, _, rfl, (fun h => by cases h), rfl⟩
      simp [execOp, go_sem, d7, cA0, cA3, cL]
    · have d8 : U[11]?.getD undef = .pointer (some ⟨L, 0, none⟩) := slot_of (hdep ⟨8, .data⟩ (by simp) rfl _ rfl) rfl
      refine step_of_run (v := v0) (w' := w1) ?_ ⟨rfl, _, rfl, (fun h => by cases h), rfl⟩
      simp [execOp, go_sem, d8, cA0, cA3, cL]
    · refine step_of_run (v := .pointer (some ⟨A, 0, none⟩)) (w' := w1) ?_ ⟨rfl, _, rfl, (fun h => by cases h), rfl⟩
      simp [execOp, go_sem, hu0, cA0, cA3, cL]
    · have d10 : U[13]?.getD undef = .pointer (some ⟨A, 0, none⟩) := slot_of (hdep ⟨10, .data⟩ (by simp) rfl _ rfl) rfl
      refine step_of_run (v := .pointer (some ⟨A, 0, none⟩)) (w' := w1) ?_ ⟨rfl, _, rfl, (fun h => by cases h), rfl⟩
      simp [execOp, go_sem, d10, cA0, cA3, cL]
    · have d11 : U[14]?.getD undef = .pointer (some ⟨A, 0, none⟩) := slot_of (hdep ⟨11, .data⟩ (by simp) rfl _ rfl) rfl
      refine step_of_run (v := .pointer (some ⟨A, 0, none⟩)) (w' := w1) ?_ ⟨rfl, _, rfl, (fun h => by cases h), rfl⟩
      simp [execOp, go_sem, d11, cA0, cA3, cL]
    · have d12 : U[15]?.getD undef = .pointer (some ⟨A, 0, none⟩) := slot_of (hdep ⟨12, .data⟩ (by simp) rfl _ rfl) rfl
      refine step_of_run (v := .int .i64 id) (w' := w1) ?_ ⟨rfl, _, rfl, (fun h => by cases h), rfl⟩
      simp [execOp, go_sem, d12, cA0, cA3, cL]
    · exact absurd rfl e1
    · exact absurd rfl e2
    · have d3 : U[6]?.getD undef = .pointer (some ⟨L, 0, none⟩) := slot_of (hdep ⟨3, .data⟩ (by simp) rfl _ rfl) rfl
      refine step_of_run (v := .pointer (some ⟨L, 0, none⟩)) (w' := w1) ?_ ⟨rfl, _, rfl, (fun h => by cases h), rfl⟩
      simp [execOp, go_sem, d3, cA0, cA3, cL]
    · exact absurd rfl e3
  · intro U w' g' hU hK h1 h2 h3 hall
    have hu0 : U[0]'(by omega) = .pointer (some ⟨A, 0, none⟩) := at_of _ (kept_of hK 0 (by decide) rfl)
    have cA0 : w'.cell? ⟨A, 0, none⟩ = some (.int .i64 id) := (HA.out.only h3 hAg).cell 0 (by omega)
    have cA2 : w'.cell? ⟨A, 2, none⟩ = some (.int .i64 got) := (HA.out.only h3 hAg).cell 2 (by omega)
    have H1 := hidP h1
    have H2 := hidP h2
    have H3 := hidP h3
    clear h1 h2 h3 hall hK
    go_wp2_with fail
    refine region_chain (by kernel_rfl) _ 30 (by first | rfl | assumption) [some (.pointer (some ⟨A, 0, none⟩)), some (.pointer (some ⟨A, 0, none⟩)), some (.pointer (some ⟨A, 0, none⟩)), some (.int .i64 id), some (.pointer (some ⟨A, 0, none⟩)), some (.pointer (some ⟨A, 0, none⟩)), some (.pointer (some ⟨A, 2, none⟩)), some (.int .i64 got), some (.agg #[.int .i64 id, .int .i64 got, .string ⟨#[107]⟩]), none, none] [9, 10] (fun vs w1 => (vs = [] ∧ w1 = w'.drew) ∨ (vs ≠ [] ∧ (∀ v ∈ vs, v = .slice (some ⟨w'.heap.size, 0, none⟩) 1 1) ∧ w1 = w'.drew.alloc (.cells #[.int .i64 id, .int .i64 got, .string ⟨#[107]⟩] 40))) (by decide) (by decide) (by decide) (by decide) (by decide) (by decide) ?_ ?_ ?_ (.inl ⟨rfl, rfl⟩)
    · intro i hi U vs w1 hia hU hK hSt hanc hdep
      have cA0 : w'.drew.cell? ⟨A, 0, none⟩ = some (.int .i64 id) := cA0
      have cA2 : w'.drew.cell? ⟨A, 2, none⟩ = some (.int .i64 got) := cA2
      have hi' : i < 11 := hi
      rcases (by omega : i = 0 ∨ i = 1 ∨ i = 2 ∨ i = 3 ∨ i = 4 ∨ i = 5 ∨ i = 6 ∨ i = 7 ∨ i = 8 ∨ i = 9 ∨ i = 10) with rfl | rfl | rfl | rfl | rfl | rfl | rfl | rfl | rfl | rfl | rfl
      · obtain ⟨rfl, rfl⟩ : vs = [] ∧ w1 = w'.drew := by
          have hv := List.eq_nil_of_length_eq_zero (Nat.le_zero.1 (hanc 0 (by decide) (by decide)))
          rcases hSt with h | h
          · exact h
          · exact absurd hv h.1
        have hx0 : U[0]?.getD undef = .pointer (some ⟨A, 0, none⟩) := kept_of hK 0 (by decide) (by first | rfl | assumption | simp_all)
        refine step_of_run (v := .pointer (some ⟨A, 0, none⟩)) (w' := _) ?_ ⟨rfl, _, rfl, (fun h => by cases h), rfl⟩
        simp [execOp, go_sem, hx0, cA0, cA2]
      · obtain ⟨rfl, rfl⟩ : vs = [] ∧ w1 = w'.drew := by
          have hv := List.eq_nil_of_length_eq_zero (Nat.le_zero.1 (hanc 0 (by decide) (by decide)))
          rcases hSt with h | h
          · exact h
          · exact absurd hv h.1
        have d0 : U[20]?.getD undef = .pointer (some ⟨A, 0, none⟩) := slot_of (chain_of (hdep ⟨0, .data⟩ (by simp) rfl (by decide)) rfl) rfl
        refine step_of_run (v := .pointer (some ⟨A, 0, none⟩)) (w' := _) ?_ ⟨rfl, _, rfl, (fun h => by cases h), rfl⟩
        simp [execOp, go_sem, d0, cA0, cA2]
      · obtain ⟨rfl, rfl⟩ : vs = [] ∧ w1 = w'.drew := by
          have hv := List.eq_nil_of_length_eq_zero (Nat.le_zero.1 (hanc 0 (by decide) (by decide)))
          rcases hSt with h | h
          · exact h
          · exact absurd hv h.1
        have d1 : U[21]?.getD undef = .pointer (some ⟨A, 0, none⟩) := slot_of (chain_of (hdep ⟨1, .data⟩ (by simp) rfl (by decide)) rfl) rfl
        refine step_of_run (v := .pointer (some ⟨A, 0, none⟩)) (w' := _) ?_ ⟨rfl, _, rfl, (fun h => by cases h), rfl⟩
        simp [execOp, go_sem, d1, cA0, cA2]
      · obtain ⟨rfl, rfl⟩ : vs = [] ∧ w1 = w'.drew := by
          have hv := List.eq_nil_of_length_eq_zero (Nat.le_zero.1 (hanc 0 (by decide) (by decide)))
          rcases hSt with h | h
          · exact h
          · exact absurd hv h.1
        have d2 : U[22]?.getD undef = .pointer (some ⟨A, 0, none⟩) := slot_of (chain_of (hdep ⟨2, .data⟩ (by simp) rfl (by decide)) rfl) rfl
        refine step_of_run (v := .int .i64 id) (w' := _) ?_ ⟨rfl, _, rfl, (fun h => by cases h), rfl⟩
        simp [execOp, go_sem, d2, cA0, cA2]
      · obtain ⟨rfl, rfl⟩ : vs = [] ∧ w1 = w'.drew := by
          have hv := List.eq_nil_of_length_eq_zero (Nat.le_zero.1 (hanc 0 (by decide) (by decide)))
          rcases hSt with h | h
          · exact h
          · exact absurd hv h.1
        have hx0 : U[0]?.getD undef = .pointer (some ⟨A, 0, none⟩) := kept_of hK 0 (by decide) (by first | rfl | assumption | simp_all)
        refine step_of_run (v := .pointer (some ⟨A, 0, none⟩)) (w' := _) ?_ ⟨rfl, _, rfl, (fun h => by cases h), rfl⟩
        simp [execOp, go_sem, hx0, cA0, cA2]
      · obtain ⟨rfl, rfl⟩ : vs = [] ∧ w1 = w'.drew := by
          have hv := List.eq_nil_of_length_eq_zero (Nat.le_zero.1 (hanc 0 (by decide) (by decide)))
          rcases hSt with h | h
          · exact h
          · exact absurd hv h.1
        have d4 : U[24]?.getD undef = .pointer (some ⟨A, 0, none⟩) := slot_of (chain_of (hdep ⟨4, .data⟩ (by simp) rfl (by decide)) rfl) rfl
        refine step_of_run (v := .pointer (some ⟨A, 0, none⟩)) (w' := _) ?_ ⟨rfl, _, rfl, (fun h => by cases h), rfl⟩
        simp [execOp, go_sem, d4, cA0, cA2]
      · obtain ⟨rfl, rfl⟩ : vs = [] ∧ w1 = w'.drew := by
          have hv := List.eq_nil_of_length_eq_zero (Nat.le_zero.1 (hanc 0 (by decide) (by decide)))
          rcases hSt with h | h
          · exact h
          · exact absurd hv h.1
        have d5 : U[25]?.getD undef = .pointer (some ⟨A, 0, none⟩) := slot_of (chain_of (hdep ⟨5, .data⟩ (by simp) rfl (by decide)) rfl) rfl
        refine step_of_run (v := .pointer (some ⟨A, 2, none⟩)) (w' := _) ?_ ⟨rfl, _, rfl, (fun h => by cases h), rfl⟩
        simp [execOp, go_sem, d5, cA0, cA2]
      · obtain ⟨rfl, rfl⟩ : vs = [] ∧ w1 = w'.drew := by
          have hv := List.eq_nil_of_length_eq_zero (Nat.le_zero.1 (hanc 0 (by decide) (by decide)))
          rcases hSt with h | h
          · exact h
          · exact absurd hv h.1
        have d6 : U[26]?.getD undef = .pointer (some ⟨A, 2, none⟩) := slot_of (chain_of (hdep ⟨6, .data⟩ (by simp) rfl (by decide)) rfl) rfl
        refine step_of_run (v := .int .i64 got) (w' := _) ?_ ⟨rfl, _, rfl, (fun h => by cases h), rfl⟩
        simp [execOp, go_sem, d6, cA0, cA2]
      · obtain ⟨rfl, rfl⟩ : vs = [] ∧ w1 = w'.drew := by
          have hv := List.eq_nil_of_length_eq_zero (Nat.le_zero.1 (hanc 0 (by decide) (by decide)))
          rcases hSt with h | h
          · exact h
          · exact absurd hv h.1
        have d3 : U[23]?.getD undef = .int .i64 id := slot_of (chain_of (hdep ⟨3, .data⟩ (by simp) rfl (by decide)) rfl) rfl
        have d7 : U[27]?.getD undef = .int .i64 got := slot_of (chain_of (hdep ⟨7, .data⟩ (by simp) rfl (by decide)) rfl) rfl
        refine step_of_run (v := .agg #[.int .i64 id, .int .i64 got, .string ⟨#[107]⟩]) (w' := _) ?_ ⟨rfl, _, rfl, (fun h => by cases h), rfl⟩
        simp [execOp, go_sem, d3, d7, cA0, cA2]
      · exact absurd (by decide) hia
      · exact absurd (by decide) hia
    · intro j hj hi U vs w1 hlen hU hK hSt hdep hprev
      have hj' : j < 2 := hj
      rcases (by omega : j = 0 ∨ j = 1) with rfl | rfl
      · obtain rfl : vs = [] := List.eq_nil_of_length_eq_zero hlen
        have d8 : U[28]?.getD undef = .agg #[.int .i64 id, .int .i64 got, .string ⟨#[107]⟩] := slot_of (chain_of (hdep ⟨8, .data⟩ (by simp) rfl (by decide)) rfl) rfl
        obtain ⟨_, rfl⟩ : ([] : List Value) = [] ∧ w1 = w'.drew := by rcases hSt with h | h; exact h; exact absurd rfl h.1
        refine step_of_run (v := .slice (some ⟨w'.heap.size, 0, none⟩) 1 1) (w' := w'.drew.alloc (.cells #[.int .i64 id, .int .i64 got, .string ⟨#[107]⟩] 40)) ?_ ⟨_, rfl, (fun h => by cases h), .inr ⟨by simp, by simp, rfl⟩⟩
        simp [execOp, go_sem, d8]
      · obtain ⟨v0, rfl⟩ : ∃ v0, vs = [v0] := by
          match vs, hlen with | [v0], _ => exact ⟨v0, rfl⟩
        have p0 : U[29]?.getD undef = v0 := slot_of (hprev 0 (by decide)) rfl
        obtain ⟨_, hv, rfl⟩ := hSt.resolve_left (fun h => by simp at h)
        have hv0 := hv v0 (by simp)
        refine step_of_run (v := v0) (w' := _) ?_ ⟨_, rfl, (fun h => by cases h), .inr ⟨by simp, by simp [hv0], rfl⟩⟩
        simp [execOp, go_sem, p0]
    · intro U2 vs w2 hU2 hK2 hlen hSt hval hall
      obtain ⟨x, y, rfl⟩ : ∃ x y, vs = [x, y] := by
        match vs, hlen with | [x, y], _ => exact ⟨x, y, rfl⟩
      obtain ⟨_, hv, rfl⟩ := hSt.resolve_left (fun h => by simp at h)
      have hy := hv y (by simp)
      have h2 : U2[2]'(by omega) = .slice (some ⟨w'.heap.size, 0, none⟩) 1 1 := at_of _ ((slot_of (hval 1 (by decide)) rfl).trans hy)
      go_wp2_with fail
      refine bodyPost_ret (v := _) (by simp [results, Yba.results59, hU2, h2]) rfl ⟨w'.heap.size, rfl, H3.out.size, ?_, g', ?_, H2.out, fun x hx => ?_, (H3.out.drew).alloc _⟩
      · exact Row.new w'.drew [.int .i64 id, .int .i64 got, .string ⟨#[107]⟩] 40 _ (fun q hq => by
          have : q = 0 ∨ q = 1 ∨ q = 2 := by simp at hq; omega
          rcases this with rfl | rfl | rfl <;> rfl)
      · exact H1.out.only ((Only.refl (S := fun _ => False)).drew.alloc _) (fun h => h) (fun _ _ h => h)
      · have := (H1.out.block_lt hx).2
        omega

theorem assertInt (x : Int) (w : World) : (Instr.typeAssert (.iface 3 (.int .i64 x)) 20 3 true).run Yba.prog w = .ok (.tuple #[.int .i64 x, .bool true]) w := by
  simp [Instr.typeAssert, run_underlying Yba.underlying3]

theorem acode (m : Option Int) (w : World) : Calls Yba.prog 13 #[msgV m] w fun e w' => e = .returned (.int .i64 (codeOf m)) ∧ w' = w := by
  cases m with
  | none =>
    show Calls Yba.prog 13 #[.nilIface] w _
    have hta := assertInt
    go_enter Yba.func13, Yba.ntmps13
    go_wp2
    all_goals (go_ret; exact ⟨rfl, rfl⟩)
  | some x =>
    show Calls Yba.prog 13 #[.iface 3 (.int .i64 x)] w _
    have hta := assertInt
    go_enter Yba.func13, Yba.ntmps13
    go_wp2
    all_goals (go_ret; exact ⟨rfl, rfl⟩)
def labelB (j : Nat) : ByteArray := ⟨#[(97 + j).toUInt8]⟩
abbrev labelV (j : Nat) : Value := .string (labelB j)

theorem alcode0 (j : Nat) (hj : j ≤ 2) (w : World) : Calls Yba.prog 16 #[.string ⟨#[(97 + j).toUInt8]⟩] w fun e w' => e = .returned (.int .i64 j) ∧ w' = w := by
  rcases (by omega : j = 0 ∨ j = 1 ∨ j = 2) with rfl | rfl | rfl
  all_goals
    simp
    go_enter Yba.func16, Yba.ntmps16
    go_wp2
    go_ret
    exact ⟨rfl, rfl⟩
theorem label0 (j : Nat) (hj : j ≤ 2) (w : World) : Calls Yba.prog 9 #[.int .i64 j] w fun e w' => e = .returned (.string ⟨#[(97 + j).toUInt8]⟩) ∧ w' = w := by
  rcases (by omega : j = 0 ∨ j = 1 ∨ j = 2) with rfl | rfl | rfl
  all_goals
    simp
    go_enter Yba.func9, Yba.ntmps9
    go_wp2
    go_ret
    exact ⟨rfl, rfl⟩

theorem decision (A L id dec got : Nat) (w : World) (hA : Row w A 67 4 (aprocM id dec got L)) (hid : id ≤ 1000) :
    Calls Yba.prog 60 #[.pointer (some ⟨A, 0, none⟩)] w fun e w' => e = .returned (.tuple #[.int .i64 ((id : Int) * 7), .bool (decide (dec ≤ got))]) ∧ w' = w.drew := by
  have cA0 : w.drew.cell? ⟨A, 0, none⟩ = some (.int .i64 id) := hA.cell 0 (by omega)
  have cA1 : w.drew.cell? ⟨A, 1, none⟩ = some (.int .i64 dec) := hA.cell 1 (by omega)
  have cA2 : w.drew.cell? ⟨A, 2, none⟩ = some (.int .i64 got) := hA.cell 2 (by omega)
  refine calls_of_wp Yba.func60 rfl ?_
  simp only [Yba.ntmps60, List.size_toArray, List.length_cons, List.length_nil, Nat.reduceAdd, Nat.reduceSub, Array.replicate_succ, Array.replicate_zero, List.push_toArray, List.append_toArray, List.nil_append, List.cons_append]
  have HA := hidP hA
  clear hA
  go_wp2_with fail
  refine region_chain (by kernel_rfl) _ 18 (by first | rfl | assumption) [some (.pointer (some ⟨A, 0, none⟩)), some (.pointer (some ⟨A, 0, none⟩)), some (.pointer (some ⟨A, 0, none⟩)), some (.int .i64 id), some (.int .i64 ((id : Int) * 7)), some (.pointer (some ⟨A, 0, none⟩)), some (.pointer (some ⟨A, 0, none⟩)), some (.pointer (some ⟨A, 2, none⟩)), some (.int .i64 got), some (.pointer (some ⟨A, 0, none⟩)), some (.pointer (some ⟨A, 0, none⟩)), some (.pointer (some ⟨A, 1, none⟩)), some (.int .i64 dec), some (.bool (decide (dec ≤ got))), some (.int .i64 ((id : Int) * 7)), some (.bool (decide (dec ≤ got)))] [] (fun _ w1 => w1 = w.drew) (by decide) (by decide) (by decide) (by decide) (by decide) (by decide) ?_ ?_ ?_ rfl
  · intro i hi U vs w1 hia hU hK hSt hanc hdep
    have hw1 : w1 = w.drew := hSt
    subst hw1
    have hw7 : IntKind.i64.wrap ((id : Int) * 7) = (id : Int) * 7 := by rw [IntKind.wrap_i64]; omega
    have hi' : i < 16 := hi
    rcases (by omega : i = 0 ∨ i = 1 ∨ i = 2 ∨ i = 3 ∨ i = 4 ∨ i = 5 ∨ i = 6 ∨ i = 7 ∨ i = 8 ∨ i = 9 ∨ i = 10 ∨ i = 11 ∨ i = 12 ∨ i = 13 ∨ i = 14 ∨ i = 15) with rfl | rfl | rfl | rfl | rfl | rfl | rfl | rfl | rfl | rfl | rfl | rfl | rfl | rfl | rfl | rfl
    · have hx0 : U[0]?.getD undef = .pointer (some ⟨A, 0, none⟩) := kept_of hK 0 (by decide) (by first | rfl | assumption | simp_all)
      refine step_of_run (v := .pointer (some ⟨A, 0, none⟩)) (w' := _) ?_ ⟨rfl, _, rfl, (fun h => by cases h), rfl⟩
      simp [execOp, go_sem, hx0, cA0, cA1, cA2, hw7]
    · have d0 : U[4]?.getD undef = .pointer (some ⟨A, 0, none⟩) := slot_of (chain_of (hdep ⟨0, .data⟩ (by simp) rfl (by decide)) rfl) rfl
      refine step_of_run (v := .pointer (some ⟨A, 0, none⟩)) (w' := _) ?_ ⟨rfl, _, rfl, (fun h => by cases h), rfl⟩
      simp [execOp, go_sem, d0, cA0, cA1, cA2, hw7]
    · have d1 : U[5]?.getD undef = .pointer (some ⟨A, 0, none⟩) := slot_of (chain_of (hdep ⟨1, .data⟩ (by simp) rfl (by decide)) rfl) rfl
      refine step_of_run (v := .pointer (some ⟨A, 0, none⟩)) (w' := _) ?_ ⟨rfl, _, rfl, (fun h => by cases h), rfl⟩
      simp [execOp, go_sem, d1, cA0, cA1, cA2, hw7]
    · have d2 : U[6]?.getD undef = .pointer (some ⟨A, 0, none⟩) := slot_of (chain_of (hdep ⟨2, .data⟩ (by simp) rfl (by decide)) rfl) rfl
      refine step_of_run (v := .int .i64 id) (w' := _) ?_ ⟨rfl, _, rfl, (fun h => by cases h), rfl⟩
      simp [execOp, go_sem, d2, cA0, cA1, cA2, hw7]
    · have d3 : U[7]?.getD undef = .int .i64 id := slot_of (chain_of (hdep ⟨3, .data⟩ (by simp) rfl (by decide)) rfl) rfl
      refine step_of_run (v := .int .i64 ((id : Int) * 7)) (w' := _) ?_ ⟨rfl, _, rfl, (fun h => by cases h), rfl⟩
      simp [execOp, go_sem, d3, cA0, cA1, cA2, hw7]
    · have hx0 : U[0]?.getD undef = .pointer (some ⟨A, 0, none⟩) := kept_of hK 0 (by decide) (by first | rfl | assumption | simp_all)
      refine step_of_run (v := .pointer (some ⟨A, 0, none⟩)) (w' := _) ?_ ⟨rfl, _, rfl, (fun h => by cases h), rfl⟩
      simp [execOp, go_sem, hx0, cA0, cA1, cA2, hw7]
    · have d5 : U[9]?.getD undef = .pointer (some ⟨A, 0, none⟩) := slot_of (chain_of (hdep ⟨5, .data⟩ (by simp) rfl (by decide)) rfl) rfl
      refine step_of_run (v := .pointer (some ⟨A, 0, none⟩)) (w' := _) ?_ ⟨rfl, _, rfl, (fun h => by cases h), rfl⟩
      simp [execOp, go_sem, d5, cA0, cA1, cA2, hw7]
    · have d6 : U[10]?.getD undef = .pointer (some ⟨A, 0, none⟩) := slot_of (chain_of (hdep ⟨6, .data⟩ (by simp) rfl (by decide)) rfl) rfl
      refine step_of_run (v := .pointer (some ⟨A, 2, none⟩)) (w' := _) ?_ ⟨rfl, _, rfl, (fun h => by cases h), rfl⟩
      simp [execOp, go_sem, d6, cA0, cA1, cA2, hw7]
    · have d7 : U[11]?.getD undef = .pointer (some ⟨A, 2, none⟩) := slot_of (chain_of (hdep ⟨7, .data⟩ (by simp) rfl (by decide)) rfl) rfl
      refine step_of_run (v := .int .i64 got) (w' := _) ?_ ⟨rfl, _, rfl, (fun h => by cases h), rfl⟩
      simp [execOp, go_sem, d7, cA0, cA1, cA2, hw7]
    · have hx0 : U[0]?.getD undef = .pointer (some ⟨A, 0, none⟩) := kept_of hK 0 (by decide) (by first | rfl | assumption | simp_all)
      refine step_of_run (v := .pointer (some ⟨A, 0, none⟩)) (w' := _) ?_ ⟨rfl, _, rfl, (fun h => by cases h), rfl⟩
      simp [execOp, go_sem, hx0, cA0, cA1, cA2, hw7]
    · have d9 : U[13]?.getD undef = .pointer (some ⟨A, 0, none⟩) := slot_of (chain_of (hdep ⟨9, .data⟩ (by simp) rfl (by decide)) rfl) rfl
      refine step_of_run (v := .pointer (some ⟨A, 0, none⟩)) (w' := _) ?_ ⟨rfl, _, rfl, (fun h => by cases h), rfl⟩
      simp [execOp, go_sem, d9, cA0, cA1, cA2, hw7]
    · have d10 : U[14]?.getD undef = .pointer (some ⟨A, 0, none⟩) := slot_of (chain_of (hdep ⟨10, .data⟩ (by simp) rfl (by decide)) rfl) rfl
      refine step_of_run (v := .pointer (some ⟨A, 1, none⟩)) (w' := _) ?_ ⟨rfl, _, rfl, (fun h => by cases h), rfl⟩
      simp [execOp, go_sem, d10, cA0, cA1, cA2, hw7]
    · have d11 : U[15]?.getD undef = .pointer (some ⟨A, 1, none⟩) := slot_of (chain_of (hdep ⟨11, .data⟩ (by simp) rfl (by decide)) rfl) rfl
      refine step_of_run (v := .int .i64 dec) (w' := _) ?_ ⟨rfl, _, rfl, (fun h => by cases h), rfl⟩
      simp [execOp, go_sem, d11, cA0, cA1, cA2, hw7]
    · have d8 : U[12]?.getD undef = .int .i64 got := slot_of (chain_of (hdep ⟨8, .data⟩ (by simp) rfl (by decide)) rfl) rfl
      have d12 : U[16]?.getD undef = .int .i64 dec := slot_of (chain_of (hdep ⟨12, .data⟩ (by simp) rfl (by decide)) rfl) rfl
      refine step_of_run (v := .bool (decide (dec ≤ got))) (w' := _) ?_ ⟨rfl, _, rfl, (fun h => by cases h), rfl⟩
      simp [execOp, go_sem, d8, d12, cA0, cA1, cA2, hw7]
    · have d4 : U[8]?.getD undef = .int .i64 ((id : Int) * 7) := slot_of (chain_of (hdep ⟨4, .data⟩ (by simp) rfl (by decide)) rfl) rfl
      refine step_of_run (v := .int .i64 ((id : Int) * 7)) (w' := _) ?_ ⟨rfl, _, rfl, (fun h => by cases h), rfl⟩
      simp [execOp, go_sem, d4, cA0, cA1, cA2, hw7]
    · have d13 : U[17]?.getD undef = .bool (decide (dec ≤ got)) := slot_of (chain_of (hdep ⟨13, .data⟩ (by simp) rfl (by decide)) rfl) rfl
      refine step_of_run (v := .bool (decide (dec ≤ got))) (w' := _) ?_ ⟨rfl, _, rfl, (fun h => by cases h), rfl⟩
      simp [execOp, go_sem, d13, cA0, cA1, cA2, hw7]
  · intro j hj hi U vs w1 hlen hU hK hSt hdep hprev
    have hj' : j < 0 := hj
    omega
  · intro U vs w1 hU hK hlen hSt hval hall
    have hw1 : w1 = w.drew := hSt
    subst hw1
    have h2 : U[2]'(by omega) = .int .i64 ((id : Int) * 7) := at_of _ (slot_of (chain_of (hall 14 (by decide) (by decide)) rfl) rfl)
    have h3 : U[3]'(by omega) = .bool (decide (dec ≤ got)) := at_of _ (slot_of (chain_of (hall 15 (by decide) (by decide)) rfl) rfl)
    go_wp2_with fail
    exact bodyPost_ret (v := _) (by simp [results, Yba.results60, hU, h2, h3]) rfl ⟨rfl, rfl⟩
end Go.Proofs.Ybulkcawy
