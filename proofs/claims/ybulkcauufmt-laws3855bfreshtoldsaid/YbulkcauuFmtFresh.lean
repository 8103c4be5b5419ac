/-
  newDetector (function 9), LowestUnsuspected at a detector that suspects nobody (14), Suspects (15), Trusted (10).
-/
import Derived.Test.YbulkcauuFmtFacts
import Derived.Test.YbulkcauuFmtRow
import Derived.Test.YbulkcauuFmtRegion
import Derived.BigRegion
namespace Go.Proofs.YbulkcauuFmt
open Go.RowKit
set_option linter.unusedVariables false

theorem info4' : (Ybaf.prog.info? 4).map (fun i => (i.zero, i.size, i.bytes)) = some (some (.bool false), 1, 1) := by kernel_rfl
theorem info47 : (Ybaf.prog.info? 47).map (fun i => (i.zero, i.size, i.bytes)) = some (some (.int .i64 0), 1, 8) := by kernel_rfl
theorem info34 : (Ybaf.prog.info? 34).map (fun i => (i.zero, i.size, i.bytes)) = some (some (.agg #[.int .u64 0, .int .i64 0, .pointer none]), 3, 24) := by kernel_rfl

theorem hid {p : Prop} (h : p) : Hid p := h
/-- A detector as newDetector's literal lays it: block D; the four blocks that it leads to. -/
def DetAt (base n : Nat) (me tr : Int) (w : World) (D : Nat) : Prop :=
  ∃ g6 g10 g14 g18 g22 : Nat, base ≤ D ∧ w.heap[D]? = some (.cells #[.int .i64 n, .int .i64 0, .int .i64 me, .int .u64 0, .int .i64 0, .pointer none, .int .i64 tr,
      .slice (some ⟨g6, 0, none⟩) (n + 1) (n + 1), .slice (some ⟨g10, 0, none⟩) (n + 1) (n + 1), .slice (some ⟨g14, 0, none⟩) (n + 1) (n + 1), .slice (some ⟨g18, 0, none⟩) (n + 1) (n + 1), .slice (some ⟨g22, 0, none⟩) (n + 1) (n + 1), .pointer none] 39 (0, 0)) ∧
    base ≤ g6 ∧ base ≤ g10 ∧ base ≤ g18 ∧ (∃ m, Row w g6 47 (n + 1) m) ∧ (∃ m, Row w g10 34 ((n + 1) * 3) m) ∧ Row w g18 4 (n + 1) (fun _ => .bool false)

def mkD (n : Nat) (me tmo : Int) (A : Nat) (u : Nat → Value) : Act := ⟨#[.agg #[.int .i64 n, .int .i64 0], .int .i64 me, .int .i64 tmo, .agg #[.int .u64 0, .int .i64 0, .pointer none], .pointer none, .pointer (some ⟨A, 0, none⟩), undef, undef, .pointer (some ⟨A + 1, 0, none⟩), undef, .pointer none, u 26, undef, u 0, u 1, u 2, u 3, u 4, u 5, u 6, u 7, u 8, u 9, u 10, u 11, u 12, u 13, u 14, u 15, u 16, u 17, u 18, u 19, u 20, u 21, u 22, u 23, u 24, u 25, undef, undef, undef, undef, undef, undef, undef, undef, undef, undef, undef, undef, undef, undef, undef, undef, undef, undef, undef, undef, undef, undef, undef, undef, undef, undef, undef, undef, undef, undef, undef], []⟩

def phi (base n : Nat) (me : Int) : Nat → Value → World → Prop
  | 0, v, _ | 3, v, _ | 7, v, _ | 11, v, _ | 15, v, _ | 19, v, _ => v = .agg #[.int .i64 n, .int .i64 0]
  | 1, v, _ => v = .int .i64 me
  | 2, v, _ => v = .agg #[.int .u64 0, .int .i64 0, .pointer none]
  | 4, v, _ | 8, v, _ | 12, v, _ | 16, v, _ | 20, v, _ => v = .int .i64 n
  | 5, v, _ | 9, v, _ | 13, v, _ | 17, v, _ | 21, v, _ => v = .int .i64 ((n : Int) + 1)
  | 6, v, w => ∃ g, v = .slice (some ⟨g, 0, none⟩) (n + 1) (n + 1) ∧ base ≤ g ∧ ∃ m, Row w g 47 (n + 1) m
  | 10, v, w | 22, v, w => ∃ g, v = .slice (some ⟨g, 0, none⟩) (n + 1) (n + 1) ∧ base ≤ g ∧ ∃ m, Row w g 34 ((n + 1) * 3) m
  | 14, v, w | 18, v, w => ∃ g, v = .slice (some ⟨g, 0, none⟩) (n + 1) (n + 1) ∧ base ≤ g ∧ Row w g 4 (n + 1) (fun _ => .bool false)
  | 23, v, _ => v = .pointer none
  | 24, v, w => ∃ g6 g10 g14 g18 g22 : Nat, v = .agg #[.int .i64 n, .int .i64 0, .int .i64 me, .int .u64 0, .int .i64 0, .pointer none, .int .i64 0,
      .slice (some ⟨g6, 0, none⟩) (n + 1) (n + 1), .slice (some ⟨g10, 0, none⟩) (n + 1) (n + 1), .slice (some ⟨g14, 0, none⟩) (n + 1) (n + 1), .slice (some ⟨g18, 0, none⟩) (n + 1) (n + 1), .slice (some ⟨g22, 0, none⟩) (n + 1) (n + 1), .pointer none] ∧
      base ≤ g6 ∧ base ≤ g10 ∧ base ≤ g18 ∧ (∃ m, Row w g6 47 (n + 1) m) ∧ (∃ m, Row w g10 34 ((n + 1) * 3) m) ∧ Row w g18 4 (n + 1) (fun _ => .bool false)
  | _, v, w => ∃ D, v = .pointer (some ⟨D, 0, none⟩) ∧ DetAt base n me 0 w D

theorem DetAt.grow {base n : Nat} {me tr : Int} {w w' : World} {D : Nat} (h : DetAt base n me tr w D) (hb : Below w.heap.size w w') : DetAt base n me tr w' D := by
  obtain ⟨g6, g10, g14, g18, g22, h1, h2, h3, h4, h5, ⟨m6, h6⟩, ⟨m10, h7⟩, h8⟩ := h
  exact ⟨g6, g10, g14, g18, g22, h1, (hb.block D (Array.getElem?_eq_some_iff.1 h2).1).trans h2, h3, h4, h5, ⟨m6, h6.below hb h6.lt⟩, ⟨m10, h7.below hb h7.lt⟩, h8.below hb h8.lt⟩

theorem phi_mono (base n : Nat) (me : Int) (i : Nat) (v : Value) (w w' : World) (h : phi base n me i v w) (hb : Below w.heap.size w w') : phi base n me i v w' := by
  unfold phi at h ⊢
  split at h <;> try exact h
  · obtain ⟨g, h1, h2, m, h3⟩ := h; exact ⟨g, h1, h2, m, h3.below hb h3.lt⟩
  · obtain ⟨g, h1, h2, m, h3⟩ := h; exact ⟨g, h1, h2, m, h3.below hb h3.lt⟩
  · obtain ⟨g, h1, h2, m, h3⟩ := h; exact ⟨g, h1, h2, m, h3.below hb h3.lt⟩
  · obtain ⟨g, h1, h2, h3⟩ := h; exact ⟨g, h1, h2, h3.below hb h3.lt⟩
  · obtain ⟨g, h1, h2, h3⟩ := h; exact ⟨g, h1, h2, h3.below hb h3.lt⟩
  · obtain ⟨g6, g10, g14, g18, g22, h1, h3, h4, h5, ⟨m6, h6⟩, ⟨m10, h7⟩, h8⟩ := h
    exact ⟨g6, g10, g14, g18, g22, h1, h3, h4, h5, ⟨m6, h6.below hb h6.lt⟩, ⟨m10, h7.below hb h7.lt⟩, h8.below hb h8.lt⟩
  · obtain ⟨D, h1, h2⟩ := h; exact ⟨D, h1, h2.grow hb⟩

theorem suspects_none (D g n q : Nat) (cap : Nat) (w : World) (hq : q ≤ n) (d10 : w.cell? ⟨D, 10, none⟩ = some (.slice (some ⟨g, 0, none⟩) (n + 1) cap)) (hc : w.cell? ⟨g, q, none⟩ = some (.bool false)) :
    Calls Ybaf.prog 15 #[.pointer (some ⟨D, 0, none⟩), .int .i64 q] w fun e w' => e = .returned (.bool false) ∧ w' = w := by
  have hq' : (q : Int) < (n : Int) + 1 := by omega
  go_enter Ybaf.func15, Ybaf.ntmps15
  go_wp2
  go_ret
  exact ⟨rfl, rfl⟩

theorem lowest_one (D g n : Nat) (cap : Nat) (w : World) (hn : 1 ≤ n) (d10 : w.cell? ⟨D, 10, none⟩ = some (.slice (some ⟨g, 0, none⟩) (n + 1) cap)) (hc : w.cell? ⟨g, 1, none⟩ = some (.bool false)) :
    Calls Ybaf.prog 14 #[.agg #[.int .i64 n, .int .i64 0], .func (.func 15) #[.pointer (some ⟨D, 0, none⟩)] #[]] w fun e w' => e = .returned (.int .i64 1) ∧ Below w.heap.size w w' := by
  have hh : hasB n 1 = true := by simp [hasB]; omega
  have hD : D < w.heap.size := World.block_lt_of_cell? _ _ d10
  have hg : g < w.heap.size := World.block_lt_of_cell? _ _ hc
  have D10 := hid d10
  have HC := hid hc
  clear d10 hc
  go_enter Ybaf.func14, Ybaf.ntmps14
  go_wp2
  refine wp_loop_rounds 1 ?_
  rw [rounds_succ]
  go_wp2_with fail
  refine (groupHas _ _ _ _).mono ?_
  rintro e w1 ⟨rfl, rfl⟩
  rw [hh]
  go_wp2_with fail
  refine (suspects_none D g n 1 cap _ hn ?_ ?_).mono ?_
  · exact (((Below.refl _ w).alloc (Nat.le_refl _) _).alloc (by simp) _).cell (by exact hD) |>.trans D10.out
  · exact (((Below.refl _ w).alloc (Nat.le_refl _) _).alloc (by simp) _).cell (by exact hg) |>.trans HC.out
  rintro e w1 ⟨rfl, rfl⟩
  go_wp2
  go_ret
  exact ⟨rfl, ((Below.refl _ w).alloc (Nat.le_refl _) _).alloc (by simp) _⟩

set_option maxRecDepth 100000 in
set_option maxHeartbeats 2000000 in
theorem newDet (n : Nat) (me tmo : Int) (w : World) (hn2 : 2 ≤ n) (hn64 : n ≤ 64) :
    Calls Ybaf.prog 9 #[.agg #[.int .i64 n, .int .i64 0], .int .i64 me, .int .i64 tmo, .agg #[.int .u64 0, .int .i64 0, .pointer none], .pointer none] w fun e w' =>
      ∃ D, e = .returned (.pointer (some ⟨D, 0, none⟩)) ∧ DetAt w.heap.size n me 1 w' D ∧ Below w.heap.size w w' := by
  have ec : ((n + 1 : Nat) : Int) = (n : Int) + 1 := by omega
  have hmk4 := fun w => run_make_row' (P := Ybaf.prog) 23 4 (.bool false) 1 Ybaf.underlying23 info4' rfl .i64 .i64 (n + 1) (by omega) (by omega) w
  have hmk47 := fun w => run_make_row' (P := Ybaf.prog) 35 47 (.int .i64 0) 8 Ybaf.underlying35 info47 rfl .i64 .i64 (n + 1) (by omega) (by omega) w
  obtain ⟨i34, hi34, hz34, hs34, hby34⟩ := info_parts info34
  have hmk34 := fun w => run_make (P := Ybaf.prog) w 36 34 i34 _ Ybaf.underlying36 hi34 hz34 .i64 .i64 ((n : Int) + 1) ((n : Int) + 1) (by omega) (Int.le_refl _) (by rw [hby34]; omega) (by omega)
  rw [ec] at hmk4 hmk47
  rw [hs34, show ((n : Int) + 1).toNat = n + 1 from by omega] at hmk34
  clear hi34 hz34 hs34 hby34
  have H4 : Hid _ := hmk4
  have H47 : Hid _ := hmk47
  have H34 : Hid _ := hmk34
  clear hmk4 hmk47 hmk34 ec
  go_enter Ybaf.func9, Ybaf.ntmps9
  go_wp2
  refine region_factsB (by kernel_rfl) (mkD n me tmo w.heap.size) (phi (w.heap.size + 2) n me)
    (fun w' => Below (w.heap.size + 2) ((w.alloc (.cells #[.int .i64 n, .int .i64 0] 25)).alloc (.cells #[.int .u64 0, .int .i64 0, .pointer none] 34)) w') (fun w w' => Below w.heap.size w w')
    (by decide) (by decide) ?hput (phi_mono _ _ _) ?hstep ?hend (fun _ => undef) ?hJ
  case hJ => exact (Below.refl _ _).drew
  case hput =>
    intro u i v hi
    have : i < 27 := hi
    rcases (by omega : i = 0 ∨ i = 1 ∨ i = 2 ∨ i = 3 ∨ i = 4 ∨ i = 5 ∨ i = 6 ∨ i = 7 ∨ i = 8 ∨ i = 9 ∨ i = 10 ∨ i = 11 ∨ i = 12 ∨ i = 13 ∨ i = 14 ∨ i = 15 ∨ i = 16 ∨ i = 17 ∨ i = 18 ∨ i = 19 ∨ i = 20 ∨ i = 21 ∨ i = 22 ∨ i = 23 ∨ i = 24 ∨ i = 25 ∨ i = 26) with rfl | rfl | rfl | rfl | rfl | rfl | rfl | rfl | rfl | rfl | rfl | rfl | rfl | rfl | rfl | rfl | rfl | rfl | rfl | rfl | rfl | rfl | rfl | rfl | rfl | rfl | rfl <;> rfl
  case hstep =>
    intro i hi u w1 hJ hφ
    have hmk4 := H4.out
    have hmk47 := H47.out
    have hmk34 := H34.out
    clear H4 H47 H34
    have hJ' := hJ
    have c0 : w1.cell? ⟨w.heap.size, 0, none⟩ = some (.int .i64 n) := (hJ.cell (by exact (by omega : w.heap.size < w.heap.size + 2))).trans (by go_simp)
    have c1 : w1.cell? ⟨w.heap.size, 1, none⟩ = some (.int .i64 0) := (hJ.cell (by exact (by omega : w.heap.size < w.heap.size + 2))).trans (by go_simp)
    have s0 : w1.cell? ⟨w.heap.size + 1, 0, none⟩ = some (.int .u64 0) := (hJ.cell (by exact (by omega : w.heap.size + 1 < w.heap.size + 2))).trans (by go_simp)
    have s1 : w1.cell? ⟨w.heap.size + 1, 1, none⟩ = some (.int .i64 0) := (hJ.cell (by exact (by omega : w.heap.size + 1 < w.heap.size + 2))).trans (by go_simp)
    have s2 : w1.cell? ⟨w.heap.size + 1, 2, none⟩ = some (.pointer none) := (hJ.cell (by exact (by omega : w.heap.size + 1 < w.heap.size + 2))).trans (by go_simp)
    have hsz : w.heap.size + 2 ≤ w1.heap.size := by have := hJ.size; simpa using this
    clear hJ
    have : i < 27 := hi
    rcases (by omega : i = 0 ∨ i = 1 ∨ i = 2 ∨ i = 3 ∨ i = 4 ∨ i = 5 ∨ i = 6 ∨ i = 7 ∨ i = 8 ∨ i = 9 ∨ i = 10 ∨ i = 11 ∨ i = 12 ∨ i = 13 ∨ i = 14 ∨ i = 15 ∨ i = 16 ∨ i = 17 ∨ i = 18 ∨ i = 19 ∨ i = 20 ∨ i = 21 ∨ i = 22 ∨ i = 23 ∨ i = 24 ∨ i = 25 ∨ i = 26) with rfl | rfl | rfl | rfl | rfl | rfl | rfl | rfl | rfl | rfl | rfl | rfl | rfl | rfl | rfl | rfl | rfl | rfl | rfl | rfl | rfl | rfl | rfl | rfl | rfl | rfl | rfl
    · refine step_of_run (v := .agg #[.int .i64 n, .int .i64 0]) (w' := w1) ?_ ⟨_, rfl, rfl, Below.refl _ _, hJ'⟩
      simp [mkD, go_sem, c0, c1]
    · refine step_of_run (v := .int .i64 me) (w' := w1) ?_ ⟨_, rfl, rfl, Below.refl _ _, hJ'⟩
      simp [mkD, go_sem]
    · refine step_of_run (v := .agg #[.int .u64 0, .int .i64 0, .pointer none]) (w' := w1) ?_ ⟨_, rfl, rfl, Below.refl _ _, hJ'⟩
      simp [mkD, go_sem, s0, s1, s2]
    · refine step_of_run (v := .agg #[.int .i64 n, .int .i64 0]) (w' := w1) ?_ ⟨_, rfl, rfl, Below.refl _ _, hJ'⟩
      simp [mkD, go_sem, c0, c1]
    · have h3 : u 3 = .agg #[.int .i64 n, .int .i64 0] := hφ ⟨3, .data⟩ (by simp) rfl
      refine step_of_call (f := 12) (args := #[.agg #[.int .i64 n, .int .i64 0]]) (w' := w1) ?_ ((groupN _ _ _).mono ?_)
      · simp [mkD, go_sem, h3]
      · rintro e w2 ⟨rfl, rfl⟩
        exact ⟨_, rfl, _, rfl, rfl, (Below.refl _ _).alloc (Nat.le_refl _) _, hJ'.alloc hsz _⟩
    · have h3 : u 4 = .int .i64 n := hφ ⟨4, .data⟩ (by simp) rfl
      refine step_of_run (v := .int .i64 ((n : Int) + 1)) (w' := w1) ?_ ⟨_, rfl, rfl, Below.refl _ _, hJ'⟩
      simp only [mkD]
      rw [h3]
      go_simp
      rw [IntKind.wrap_i64]
      omega
    · have h3 : u 5 = .int .i64 ((n : Int) + 1) := hφ ⟨5, .data⟩ (by simp) rfl
      refine step_of_run (v := .slice (some ⟨w1.heap.size, 0, none⟩) (n + 1) (n + 1)) (w' := w1.alloc (.cells (madeCells #[.int .i64 0] (n + 1)) 47)) ?_ ⟨_, rfl, ⟨_, rfl, hsz, _, Row.made _ _ _ _⟩, (Below.refl _ _).alloc (Nat.le_refl _) _, hJ'.alloc hsz _⟩
      simp [mkD, go_sem, h3, hmk47]
    · refine step_of_run (v := .agg #[.int .i64 n, .int .i64 0]) (w' := w1) ?_ ⟨_, rfl, rfl, Below.refl _ _, hJ'⟩
      simp [mkD, go_sem, c0, c1]
    · have h3 : u 7 = .agg #[.int .i64 n, .int .i64 0] := hφ ⟨7, .data⟩ (by simp) rfl
      refine step_of_call (f := 12) (args := #[.agg #[.int .i64 n, .int .i64 0]]) (w' := w1) ?_ ((groupN _ _ _).mono ?_)
      · simp [mkD, go_sem, h3]
      · rintro e w2 ⟨rfl, rfl⟩
        exact ⟨_, rfl, _, rfl, rfl, (Below.refl _ _).alloc (Nat.le_refl _) _, hJ'.alloc hsz _⟩
    · have h3 : u 8 = .int .i64 n := hφ ⟨8, .data⟩ (by simp) rfl
      refine step_of_run (v := .int .i64 ((n : Int) + 1)) (w' := w1) ?_ ⟨_, rfl, rfl, Below.refl _ _, hJ'⟩
      simp only [mkD]
      rw [h3]
      go_simp
      rw [IntKind.wrap_i64]
      omega
    · have h3 : u 9 = .int .i64 ((n : Int) + 1) := hφ ⟨9, .data⟩ (by simp) rfl
      refine step_of_run (v := .slice (some ⟨w1.heap.size, 0, none⟩) (n + 1) (n + 1)) (w' := w1.alloc (.cells (madeCells (Value.agg #[.int .u64 0, .int .i64 0, .pointer none]).cells ((n + 1) * 3)) 34)) ?_ ⟨_, rfl, ⟨_, rfl, hsz, _, Row.anyNew _ _ _ (size_madeCells _ _)⟩, (Below.refl _ _).alloc (Nat.le_refl _) _, hJ'.alloc hsz _⟩
      simp [mkD, go_sem, h3, hmk34]
    · refine step_of_run (v := .agg #[.int .i64 n, .int .i64 0]) (w' := w1) ?_ ⟨_, rfl, rfl, Below.refl _ _, hJ'⟩
      simp [mkD, go_sem, c0, c1]
    · have h3 : u 11 = .agg #[.int .i64 n, .int .i64 0] := hφ ⟨11, .data⟩ (by simp) rfl
      refine step_of_call (f := 12) (args := #[.agg #[.int .i64 n, .int .i64 0]]) (w' := w1) ?_ ((groupN _ _ _).mono ?_)
      · simp [mkD, go_sem, h3]
      · rintro e w2 ⟨rfl, rfl⟩
        exact ⟨_, rfl, _, rfl, rfl, (Below.refl _ _).alloc (Nat.le_refl _) _, hJ'.alloc hsz _⟩
    · have h3 : u 12 = .int .i64 n := hφ ⟨12, .data⟩ (by simp) rfl
      refine step_of_run (v := .int .i64 ((n : Int) + 1)) (w' := w1) ?_ ⟨_, rfl, rfl, Below.refl _ _, hJ'⟩
      simp only [mkD]
      rw [h3]
      go_simp
      rw [IntKind.wrap_i64]
      omega
    · have h3 : u 13 = .int .i64 ((n : Int) + 1) := hφ ⟨13, .data⟩ (by simp) rfl
      refine step_of_run (v := .slice (some ⟨w1.heap.size, 0, none⟩) (n + 1) (n + 1)) (w' := w1.alloc (.cells (madeCells #[.bool false] (n + 1)) 4)) ?_ ⟨_, rfl, ⟨_, rfl, hsz, Row.made _ _ _ _⟩, (Below.refl _ _).alloc (Nat.le_refl _) _, hJ'.alloc hsz _⟩
      simp [mkD, go_sem, h3, hmk4]
    · refine step_of_run (v := .agg #[.int .i64 n, .int .i64 0]) (w' := w1) ?_ ⟨_, rfl, rfl, Below.refl _ _, hJ'⟩
      simp [mkD, go_sem, c0, c1]
    · have h3 : u 15 = .agg #[.int .i64 n, .int .i64 0] := hφ ⟨15, .data⟩ (by simp) rfl
      refine step_of_call (f := 12) (args := #[.agg #[.int .i64 n, .int .i64 0]]) (w' := w1) ?_ ((groupN _ _ _).mono ?_)
      · simp [mkD, go_sem, h3]
      · rintro e w2 ⟨rfl, rfl⟩
        exact ⟨_, rfl, _, rfl, rfl, (Below.refl _ _).alloc (Nat.le_refl _) _, hJ'.alloc hsz _⟩
    · have h3 : u 16 = .int .i64 n := hφ ⟨16, .data⟩ (by simp) rfl
      refine step_of_run (v := .int .i64 ((n : Int) + 1)) (w' := w1) ?_ ⟨_, rfl, rfl, Below.refl _ _, hJ'⟩
      simp only [mkD]
      rw [h3]
      go_simp
      rw [IntKind.wrap_i64]
      omega
    · have h3 : u 17 = .int .i64 ((n : Int) + 1) := hφ ⟨17, .data⟩ (by simp) rfl
      refine step_of_run (v := .slice (some ⟨w1.heap.size, 0, none⟩) (n + 1) (n + 1)) (w' := w1.alloc (.cells (madeCells #[.bool false] (n + 1)) 4)) ?_ ⟨_, rfl, ⟨_, rfl, hsz, Row.made _ _ _ _⟩, (Below.refl _ _).alloc (Nat.le_refl _) _, hJ'.alloc hsz _⟩
      simp [mkD, go_sem, h3, hmk4]
    · refine step_of_run (v := .agg #[.int .i64 n, .int .i64 0]) (w' := w1) ?_ ⟨_, rfl, rfl, Below.refl _ _, hJ'⟩
      simp [mkD, go_sem, c0, c1]
    · have h3 : u 19 = .agg #[.int .i64 n, .int .i64 0] := hφ ⟨19, .data⟩ (by simp) rfl
      refine step_of_call (f := 12) (args := #[.agg #[.int .i64 n, .int .i64 0]]) (w' := w1) ?_ ((groupN _ _ _).mono ?_)
      · simp [mkD, go_sem, h3]
      · rintro e w2 ⟨rfl, rfl⟩
        exact ⟨_, rfl, _, rfl, rfl, (Below.refl _ _).alloc (Nat.le_refl _) _, hJ'.alloc hsz _⟩
    · have h3 : u 20 = .int .i64 n := hφ ⟨20, .data⟩ (by simp) rfl
      refine step_of_run (v := .int .i64 ((n : Int) + 1)) (w' := w1) ?_ ⟨_, rfl, rfl, Below.refl _ _, hJ'⟩
      simp only [mkD]
      rw [h3]
      go_simp
      rw [IntKind.wrap_i64]
      omega
    · have h3 : u 21 = .int .i64 ((n : Int) + 1) := hφ ⟨21, .data⟩ (by simp) rfl
      refine step_of_run (v := .slice (some ⟨w1.heap.size, 0, none⟩) (n + 1) (n + 1)) (w' := w1.alloc (.cells (madeCells (Value.agg #[.int .u64 0, .int .i64 0, .pointer none]).cells ((n + 1) * 3)) 34)) ?_ ⟨_, rfl, ⟨_, rfl, hsz, _, Row.anyNew _ _ _ (size_madeCells _ _)⟩, (Below.refl _ _).alloc (Nat.le_refl _) _, hJ'.alloc hsz _⟩
      simp [mkD, go_sem, h3, hmk34]
    · refine step_of_run (v := .pointer none) (w' := w1) ?_ ⟨_, rfl, rfl, Below.refl _ _, hJ'⟩
      simp [mkD, go_sem]
    · have h0 : u 0 = .agg #[.int .i64 n, .int .i64 0] := hφ ⟨0, .data⟩ (by simp) rfl
      have h1 : u 1 = .int .i64 me := hφ ⟨1, .data⟩ (by simp) rfl
      have h2 : u 2 = .agg #[.int .u64 0, .int .i64 0, .pointer none] := hφ ⟨2, .data⟩ (by simp) rfl
      obtain ⟨g6, h6, b6, r6⟩ := (hφ ⟨6, .data⟩ (by simp) rfl : phi (w.heap.size + 2) n me 6 (u 6) w1)
      obtain ⟨g10, h10, b10, r10⟩ := (hφ ⟨10, .data⟩ (by simp) rfl : phi (w.heap.size + 2) n me 10 (u 10) w1)
      obtain ⟨g14, h14, b14, r14⟩ := (hφ ⟨14, .data⟩ (by simp) rfl : phi (w.heap.size + 2) n me 14 (u 14) w1)
      obtain ⟨g18, h18, b18, r18⟩ := (hφ ⟨18, .data⟩ (by simp) rfl : phi (w.heap.size + 2) n me 18 (u 18) w1)
      obtain ⟨g22, h22, b22, r22⟩ := (hφ ⟨22, .data⟩ (by simp) rfl : phi (w.heap.size + 2) n me 22 (u 22) w1)
      have h23 : u 23 = .pointer none := hφ ⟨23, .data⟩ (by simp) rfl
      refine step_of_run (v := _) (w' := w1) ?_ ⟨_, rfl, ⟨g6, g10, g14, g18, g22, rfl, b6, b10, b18, r6, r10, r18⟩, Below.refl _ _, hJ'⟩
      simp [mkD, go_sem, h0, h1, h2, h6, h10, h14, h18, h22, h23]
    · obtain ⟨g6, g10, g14, g18, g22, hv, b6, b10, b18, ⟨m6, r6⟩, ⟨m10, r10⟩, r18⟩ := (hφ ⟨24, .data⟩ (by simp) rfl : phi (w.heap.size + 2) n me 24 (u 24) w1)
      refine step_of_run (v := .pointer (some ⟨w1.heap.size, 0, none⟩)) ?_ ⟨_, rfl, ⟨_, rfl, g6, g10, g14, g18, g22, hsz, heap_alloc_new _ _, b6, b10, b18, ⟨m6, r6.alloc _⟩, ⟨m10, r10.alloc _⟩, r18.alloc _⟩, (Below.refl _ _).alloc (Nat.le_refl _) _, hJ'.alloc hsz _⟩
      simp [mkD, go_sem, hv]
    · have hD : phi (w.heap.size + 2) n me 25 (u 25) w1 := hφ ⟨25, .data⟩ (by simp) rfl
      refine step_of_run (v := u 25) (w' := w1) ?_ ⟨_, rfl, hD, Below.refl _ _, hJ'⟩
      simp [mkD, go_sem]

  case hend =>
    intro u w1 hJ hφ
    clear H4 H47 H34
    obtain ⟨D, hD, hdet⟩ := (hφ 26 (by decide) : phi (w.heap.size + 2) n me 26 (u 26) w1)
    simp only [mkD, hD]
    clear hφ hD
    obtain ⟨g6, g10, g14, g18, g22, bD, hblk, b6, b10, b18, h6, h10, h18⟩ := hdet
    have n6 : g6 ≠ D := by
      rintro rfl; obtain ⟨m, cur, e, _⟩ := h6; rw [hblk] at e; simp at e
    have n10 : g10 ≠ D := by
      rintro rfl; obtain ⟨m, cur, e, _⟩ := h10; rw [hblk] at e; simp at e
    have n18 : g18 ≠ g6 := by
      rintro rfl; obtain ⟨m, cur, e, _⟩ := h6; obtain ⟨cur', e', _⟩ := h18; rw [e'] at e; simp at e
    have n18' : g18 ≠ g10 := by
      rintro rfl; obtain ⟨m, cur, e, _⟩ := h10; obtain ⟨cur', e', _⟩ := h18; rw [e'] at e; simp at e
    have n18D : g18 ≠ D := by
      rintro rfl; obtain ⟨cur', e', _⟩ := h18; rw [hblk] at e'; simp at e'
    have n610 : g6 ≠ g10 := by
      rintro rfl; obtain ⟨m, cur, e, _⟩ := h6; obtain ⟨m', cur', e', _⟩ := h10; rw [e'] at e; simp at e
    have d7 : w1.cell? ⟨D, 7, none⟩ = some (.slice (some ⟨g6, 0, none⟩) (n + 1) (n + 1)) := by simp [World.cell?, hblk]
    have HBK := hid hblk
    have H6 := hid h6
    have H10 := hid h10
    have H18 := hid h18
    have HJ := hid hJ
    clear hblk h6 h10 h18 hJ
    go_wp2
    go_loopw [44] (fun i wr => ∃ k : Nat, k ≤ n + 1 ∧ i = .int .i64 k ∧ wr.heap[D]? = some (.cells #[.int .i64 n, .int .i64 0, .int .i64 me, .int .u64 0, .int .i64 0, .pointer none, .int .i64 0,
      .slice (some ⟨g6, 0, none⟩) (n + 1) (n + 1), .slice (some ⟨g10, 0, none⟩) (n + 1) (n + 1), .slice (some ⟨g14, 0, none⟩) (n + 1) (n + 1), .slice (some ⟨g18, 0, none⟩) (n + 1) (n + 1), .slice (some ⟨g22, 0, none⟩) (n + 1) (n + 1), .pointer none] 39 (0, 0)) ∧
        (∃ m, Row wr g6 47 (n + 1) m) ∧ (∃ m, Row wr g10 34 ((n + 1) * 3) m) ∧ Row wr g18 4 (n + 1) (fun _ => .bool false) ∧
        Below (w.heap.size + 2) ((w.alloc (.cells #[.int .i64 n, .int .i64 0] 25)).alloc (.cells #[.int .u64 0, .int .i64 0, .pointer none] 34)) wr)
      (fun i _ => n + 1 - (intOf i).toNat)
    case atStart => exact ⟨0, by omega, rfl, HBK.out, H6.out, H10.out, H18.out, HJ.out⟩
    case round =>
      clear HBK H6 H10 H18 HJ d7
      obtain ⟨k, hk, rfl, hblk, ⟨m6, h6⟩, ⟨m10, h10⟩, h18, hJ⟩ := hrel
      have HBK := hid hblk
      have H6 := hid h6
      have H10 := hid h10
      have H18 := hid h18
      have HJ := hid hJ
      by_cases hlt : k < n + 1
      · have d7 : wr.cell? ⟨D, 7, none⟩ = some (.slice (some ⟨g6, 0, none⟩) (n + 1) (n + 1)) := by simp [World.cell?, hblk]
        have d8 : wr.cell? ⟨D, 8, none⟩ = some (.slice (some ⟨g10, 0, none⟩) (n + 1) (n + 1)) := by simp [World.cell?, hblk]
        have s0 : wr.cell? ⟨w.heap.size + 1, 0, none⟩ = some (.int .u64 0) := (hJ.cell (by exact (by omega : w.heap.size + 1 < w.heap.size + 2))).trans (by go_simp)
        have s1 : wr.cell? ⟨w.heap.size + 1, 1, none⟩ = some (.int .i64 0) := (hJ.cell (by exact (by omega : w.heap.size + 1 < w.heap.size + 2))).trans (by go_simp)
        have s2 : wr.cell? ⟨w.heap.size + 1, 2, none⟩ = some (.pointer none) := (hJ.cell (by exact (by omega : w.heap.size + 1 < w.heap.size + 2))).trans (by go_simp)
        have c6 := h6.cell k hlt
        have z6 := h6.frozen k
        have c10 := h10.cell (k * 3) (by omega)
        have c11 := h10.cell (k * 3 + 1) (by omega)
        have c12 := h10.cell (k * 3 + 2) (by omega)
        have z10 := h10.frozen (k * 3)
        have z11 := h10.frozen (k * 3 + 1)
        have z12 := h10.frozen (k * 3 + 2)
        have i0 : (0 : Int) ≤ (k : Int) := by omega
        have i1 : (k : Int) < (n : Int) + 1 := by omega
        have q1 : D ≠ g6 := n6.symm
        have q2 : D ≠ g10 := n10.symm
        have q3 : w.heap.size + 1 ≠ g6 := by omega
        have q4 : w.heap.size + 1 ≠ g10 := by omega
        have q5 : g10 ≠ g6 := n610.symm
        clear hblk h6 h10 h18 hJ
        go_wp2_with fail
        go_region
        go_wp2
        go_roundw
        case rel =>
          refine ⟨k + 1, by omega, by go_num, ?_, ⟨_, ((((H6.out.set k _).far _ _ (by exact n610)).far _ _ (by exact n610)).far _ _ (by exact n610)).drew⟩,
            ⟨_, ((((H10.out.far _ _ (by exact q5)).set _ _).set _ _).set _ _).drew⟩, ((((H18.out.far _ _ (by exact n18)).far _ _ (by exact n18')).far _ _ (by exact n18')).far _ _ (by exact n18')).drew,
            ((((HJ.out.setCell (by exact b6) _).setCell (by exact b10) _).setCell (by exact b10) _).setCell (by exact b10) _).drew⟩
          show (World.setCell _ _ _).heap[D]? = _
          rw [Below.heap_setCell _ _ _ _ (by exact q2), Below.heap_setCell _ _ _ _ (by exact q2), Below.heap_setCell _ _ _ _ (by exact q2), Below.heap_setCell _ _ _ _ (by exact q1)]
          exact HBK.out
        case measure => simp [intOf]; omega
      · have hke : k = n + 1 := by omega
        have d0 : wr.cell? ⟨w.heap.size, 0, none⟩ = some (.int .i64 n) := (hJ.cell (by exact (by omega : w.heap.size < w.heap.size + 2))).trans (by go_simp)
        have d1 : wr.cell? ⟨w.heap.size, 1, none⟩ = some (.int .i64 0) := (hJ.cell (by exact (by omega : w.heap.size < w.heap.size + 2))).trans (by go_simp)
        have d6 : wr.cell? ⟨D, 6, none⟩ = some (.int .i64 0) := by simp [World.cell?, hblk]
        have z6 : wr.frozen? ⟨D, 6, none⟩ = false := by simp [World.frozen?, hblk]
        have hDlt : D < wr.heap.size := (Array.getElem?_eq_some_iff.1 hblk).1
        have i1 : ¬ (k : Int) < (n : Int) + 1 := by omega
        clear hblk h6 h10 h18 hJ hke
        go_wp2_with fail
        refine (lowest_one D g18 n (n + 1) _ (by omega) (by simp [World.cell?, HBK.out]) (H18.out.cell 1 (by omega))).mono ?_
        rintro e w2 ⟨rfl, hb2⟩
        have d6' : w2.cell? ⟨D, 6, none⟩ = some (.int .i64 0) := (hb2.cell (by exact hDlt)).trans d6
        have z6' : w2.frozen? ⟨D, 6, none⟩ = false := (hb2.frozen (by exact hDlt)).trans z6
        have hblk2 := (hb2.block D hDlt).trans HBK.out
        have hs2 := hb2.size
        have HE : Hid (DetAt w.heap.size n me 1 (w2.setCell ⟨D, 6, none⟩ (.int .i64 1)) D ∧ Below w.heap.size w (w2.setCell ⟨D, 6, none⟩ (.int .i64 1))) := by
          refine ⟨⟨g6, g10, g14, g18, g22, by omega, by simp [World.setCell, Array.getElem?_modify, hblk2], by omega, by omega, by omega,
            ⟨_, (H6.out.below hb2 H6.out.lt).far _ _ (by exact n6)⟩, ⟨_, (H10.out.below hb2 H10.out.lt).far _ _ (by exact n10)⟩, (H18.out.below hb2 H18.out.lt).far _ _ (by exact n18D)⟩, ?_⟩
          exact ((((Below.refl _ w).alloc (Nat.le_refl _) _).alloc (by simp) _).trans ((HJ.out.mono (by omega)).trans (hb2.mono (by have := HJ.out.size; simp at this; omega)))).setCell (by exact (by omega : w.heap.size ≤ D)) _
        clear hb2 hblk2 hs2 d6 z6 d0 d1
        go_wp2
        go_ret
        exact ⟨D, rfl, HE.out⟩
end Go.Proofs.YbulkcauuFmt
