/-
  newProcessSet (32) and newInputTally (21): whatever order the composite literal's makes and calls come in.
-/
import Derived.Test.YbulkcawyProg
import Derived.Test.YbulkcawyRow
import Derived.Test.YbulkcawyRegion
namespace Go.Proofs.Ybulkcawy
open Go.RowKit
set_option linter.unusedVariables false

theorem hidT {p : Prop} (h : p) : Hid p := h
theorem info3 : (Yba.prog.info? 3).map (fun i => (i.zero, i.size, i.bytes)) = some (some (.int .i64 0), 1, 8) := by kernel_rfl
theorem info103 : (Yba.prog.info? 103).map (fun i => (i.zero, i.size, i.bytes)) = some (some (.int .u64 0), 1, 8) := by kernel_rfl

theorem newSet (n nw : Nat) (hn : n ≤ 700) (hw : (n + 63) / 64 = nw) (w : World) :
    Calls Yba.prog 32 #[.int .i64 n] w fun e w' => e = .returned (.slice (some ⟨w.heap.size, 0, none⟩) nw nw) ∧ w' = w.alloc (.cells (madeCells #[.int .u64 0] nw) 103) := by
  have hmk := fun w => run_make_row' (P := Yba.prog) 99 103 (.int .u64 0) 8 Yba.underlying99 info103 rfl .i64 .i64 nw (by omega) (by omega) w
  have hn' : (n : Int) ≤ 700 := by omega
  have hq : ((n : Int) + 63) / 64 = (nw : Int) := by omega
  go_enter Yba.func32, Yba.ntmps32
  go_wp2
  go_ret
  exact ⟨rfl, rfl⟩

def mkT (n A : Nat) (u : Nat → Value) : Act := ⟨#[.int .i64 n, undef, .pointer (some ⟨A, 0, none⟩), u 0, u 1, u 2, u 3, u 4, u 5, u 6, u 7, u 8, u 9], []⟩
def phiT (A n nw : Nat) : Nat → Value → World → Prop
  | 0, v, _ | 1, v, _ | 3, v, _ | 5, v, _ | 7, v, _ => v = .int .i64 n
  | 2, v, w | 4, v, w => ∃ g, v = .slice (some ⟨g, 0, none⟩) n n ∧ A < g ∧ Row w g 3 n (fun _ => .int .i64 0)
  | 6, v, w | 8, v, w => ∃ g, v = .slice (some ⟨g, 0, none⟩) nw nw ∧ A < g ∧ Row w g 103 nw (fun _ => .int .u64 0)
  | 9, v, w => ∃ gz go gk gr : Nat, v = .agg #[.int .i64 n, .slice (some ⟨gz, 0, none⟩) n n, .slice (some ⟨go, 0, none⟩) n n, .slice (some ⟨gk, 0, none⟩) nw nw, .slice (some ⟨gr, 0, none⟩) nw nw] ∧ A < gz ∧ A < go ∧ A < gk ∧ A < gr ∧ Row w gz 3 n (fun _ => .int .i64 0) ∧ Row w go 3 n (fun _ => .int .i64 0) ∧ Row w gk 103 nw (fun _ => .int .u64 0) ∧ Row w gr 103 nw (fun _ => .int .u64 0) ∧ gz ≠ go ∧ gk ≠ gr
  | 10, v, w => v = undef ∧ ∃ gz go gk gr : Nat, w.heap[A]? = some (.cells #[.int .i64 n, .slice (some ⟨gz, 0, none⟩) n n, .slice (some ⟨go, 0, none⟩) n n, .slice (some ⟨gk, 0, none⟩) nw nw, .slice (some ⟨gr, 0, none⟩) nw nw] 101 (0, 0)) ∧ A < gz ∧ A < go ∧ A < gk ∧ A < gr ∧ Row w gz 3 n (fun _ => .int .i64 0) ∧ Row w go 3 n (fun _ => .int .i64 0) ∧ Row w gk 103 nw (fun _ => .int .u64 0) ∧ Row w gr 103 nw (fun _ => .int .u64 0) ∧ gz ≠ go ∧ gk ≠ gr
  | _, _, _ => False
def RT (A i : Nat) (w w' : World) : Prop := if i = 10 then ∀ k, k ≠ A → w'.heap[k]? = w.heap[k]? else Below w.heap.size w w'
def psiT (_ _ : Nat) (v x : Value) : Prop := ∀ g, v.ownBlock = some g → x.ownBlock ≠ some g
theorem psiT_none {i j : Nat} {v x : Value} (h : v.ownBlock = none) : psiT i j v x ∧ psiT j i x v :=
  ⟨fun g hg => (by rw [h] at hg; cases hg), fun g _ => (by rw [h]; simp)⟩
theorem phiT_lt {A n nw j g : Nat} {x : Value} {w : World} (h : phiT A n nw j x w) (hg : x.ownBlock = some g) : g < w.heap.size := by
  unfold phiT at h
  split at h
  all_goals first
    | (subst h; simp [Value.ownBlock] at hg; done)
    | (obtain ⟨g', rfl, _, hr⟩ := h; simp [Value.ownBlock] at hg; subst hg; exact hr.lt)
    | (obtain ⟨gz, go, gk, gr, rfl, _⟩ := h; simp [Value.ownBlock] at hg; done)
    | (obtain ⟨rfl, _⟩ := h; simp [Value.ownBlock, undef] at hg; done)
    | exact h.elim
theorem phiT_mono (A n nw i k : Nat) (v : Value) (w w' : World) (hki : k ≠ i) (h : phiT A n nw k v w) (hR : RT A i w w') : phiT A n nw k v w' := by
  have key : ∀ {g t m f}, A < g → Row w g t m f → Row w' g t m f := by
    intro g t m f hg hr
    unfold RT at hR
    split at hR
    · exact hr.of_block (hR g (by omega))
    · exact hr.below hR hr.lt
  unfold phiT at h ⊢
  split at h
  all_goals first
    | exact h
    | (obtain ⟨g, h1, h2, h3⟩ := h; exact ⟨g, h1, h2, key h2 h3⟩)
    | (obtain ⟨gz, go, gk, gr, h0, h1, h2, h3, h4, r1, r2, r3, r4, h5⟩ := h; exact ⟨gz, go, gk, gr, h0, h1, h2, h3, h4, key h1 r1, key h2 r2, key h3 r3, key h4 r4, h5⟩)
    | exact h.elim
    | skip
  obtain ⟨hu, gz, go, gk, gr, h0, h1, h2, h3, h4, r1, r2, r3, r4, h5⟩ := h
  refine ⟨hu, gz, go, gk, gr, ?_, h1, h2, h3, h4, key h1 r1, key h2 r2, key h3 r3, key h4 r4, h5⟩
  unfold RT at hR
  split at hR
  · rename_i e
    subst e
    exact absurd rfl hki
  · exact (hR.block A (Array.getElem?_eq_some_iff.1 h0).1).trans h0

set_option maxRecDepth 100000 in
set_option maxHeartbeats 2000000 in
theorem newTally (n nw : Nat) (hn1 : 1 ≤ n) (hn : n ≤ 700) (hw : (n + 63) / 64 = nw) (w : World) :
    Calls Yba.prog 21 #[.int .i64 n] w fun e w' => ∃ gz go gk gr : Nat, e = .returned (.agg #[.int .i64 n, .slice (some ⟨gz, 0, none⟩) n n, .slice (some ⟨go, 0, none⟩) n n, .slice (some ⟨gk, 0, none⟩) nw nw, .slice (some ⟨gr, 0, none⟩) nw nw]) ∧ w.heap.size ≤ gz ∧ w.heap.size ≤ go ∧ w.heap.size ≤ gk ∧ w.heap.size ≤ gr ∧
      Row w' gz 3 n (fun _ => .int .i64 0) ∧ Row w' go 3 n (fun _ => .int .i64 0) ∧ Row w' gk 103 nw (fun _ => .int .u64 0) ∧ Row w' gr 103 nw (fun _ => .int .u64 0) ∧ gz ≠ go ∧ gk ≠ gr ∧ Below w.heap.size w w' := by
  have hmk3 := fun w => run_make_row' (P := Yba.prog) 29 3 (.int .i64 0) 8 Yba.underlying29 info3 rfl .i64 .i64 n (by omega) (by omega) w
  have HM : Hid _ := hmk3
  clear hmk3
  go_enter Yba.func21, Yba.ntmps21
  go_wp2
  refine region_facts (by kernel_rfl) (mkT n w.heap.size) (phiT w.heap.size n nw) psiT
    (fun w' => Below w.heap.size w w' ∧ ∃ c0 c1 c2 c3 c4, w'.heap[w.heap.size]? = some (.cells #[c0, c1, c2, c3, c4] 101 (0, 0))) (RT w.heap.size)
    (by decide) (by decide) ?hput (phiT_mono _ _ _) ?hstep ?hend (fun _ => undef) ?hJ
  case hJ => exact ⟨((Below.refl _ _).alloc (Nat.le_refl _) _).drew, _, _, _, _, _, heap_alloc_new _ _⟩
  case hput =>
    intro u i v hi
    have : i < 11 := hi
    rcases (by omega : i = 0 ∨ i = 1 ∨ i = 2 ∨ i = 3 ∨ i = 4 ∨ i = 5 ∨ i = 6 ∨ i = 7 ∨ i = 8 ∨ i = 9 ∨ i = 10) with rfl | rfl | rfl | rfl | rfl | rfl | rfl | rfl | rfl | rfl | rfl <;> rfl
  case hstep =>
    intro i hi u w1 hJ hφ hψ
    have hmk3 := HM.out
    clear HM
    have hA : w.heap.size < w1.heap.size := by
      obtain ⟨_, c0, c1, c2, c3, c4, hb⟩ := hJ
      exact (Array.getElem?_eq_some_iff.1 hb).1
    have hal : ∀ o, Below w.heap.size w (w1.alloc o) ∧ ∃ c0 c1 c2 c3 c4, (w1.alloc o).heap[w.heap.size]? = some (.cells #[c0, c1, c2, c3, c4] 101 (0, 0)) := fun o => by
      obtain ⟨h1, c0, c1, c2, c3, c4, hb⟩ := hJ
      exact ⟨h1.alloc (by omega) _, c0, c1, c2, c3, c4, (heap_alloc_old _ _ hA).trans hb⟩
    have hps : ∀ {j i : Nat} {y v : Value}, phiT w.heap.size n nw j y w1 → v.ownBlock = some w1.heap.size → psiT i j v y ∧ psiT j i y v := fun hx hv =>
      ⟨fun g hg e => by rw [hv] at hg; injection hg with hg; subst hg; exact absurd (phiT_lt hx e) (by omega), fun g hg e => by rw [hv] at e; injection e with e; subst e; exact absurd (phiT_lt hx hg) (by omega)⟩
    have : i < 11 := hi
    rcases (by omega : i = 0 ∨ i = 1 ∨ i = 2 ∨ i = 3 ∨ i = 4 ∨ i = 5 ∨ i = 6 ∨ i = 7 ∨ i = 8 ∨ i = 9 ∨ i = 10) with rfl | rfl | rfl | rfl | rfl | rfl | rfl | rfl | rfl | rfl | rfl
    · refine step_of_run (v := .int .i64 n) (w' := w1) ?_ ⟨_, rfl, rfl, by simp [RT, Below.refl], hJ, fun j x _ _ => psiT_none rfl⟩
      simp [mkT, go_sem]
    · refine step_of_run (v := .int .i64 n) (w' := w1) ?_ ⟨_, rfl, rfl, by simp [RT, Below.refl], hJ, fun j x _ _ => psiT_none rfl⟩
      simp [mkT, go_sem]
    · have h3 : u 1 = .int .i64 n := hφ ⟨1, .data⟩ (by simp) rfl
      refine step_of_run (v := .slice (some ⟨w1.heap.size, 0, none⟩) n n) (w' := w1.alloc (.cells (madeCells #[.int .i64 0] n) 3)) ?_ ⟨_, rfl, ⟨_, rfl, by omega, Row.made _ _ _ _⟩, by simp [RT]; exact (Below.refl _ _).alloc (Nat.le_refl _) _, hal _, fun j x _ hx => hps hx rfl⟩
      simp [mkT, go_sem, h3, hmk3]
    · refine step_of_run (v := .int .i64 n) (w' := w1) ?_ ⟨_, rfl, rfl, by simp [RT, Below.refl], hJ, fun j x _ _ => psiT_none rfl⟩
      simp [mkT, go_sem]
    · have h3 : u 3 = .int .i64 n := hφ ⟨3, .data⟩ (by simp) rfl
      refine step_of_run (v := .slice (some ⟨w1.heap.size, 0, none⟩) n n) (w' := w1.alloc (.cells (madeCells #[.int .i64 0] n) 3)) ?_ ⟨_, rfl, ⟨_, rfl, by omega, Row.made _ _ _ _⟩, by simp [RT]; exact (Below.refl _ _).alloc (Nat.le_refl _) _, hal _, fun j x _ hx => hps hx rfl⟩
      simp [mkT, go_sem, h3, hmk3]
    · refine step_of_run (v := .int .i64 n) (w' := w1) ?_ ⟨_, rfl, rfl, by simp [RT, Below.refl], hJ, fun j x _ _ => psiT_none rfl⟩
      simp [mkT, go_sem]
    · have h3 : u 5 = .int .i64 n := hφ ⟨5, .data⟩ (by simp) rfl
      refine step_of_call (f := 32) (args := #[.int .i64 n]) (w' := w1) ?_ ((newSet n nw hn hw _).mono ?_)
      · simp [mkT, go_sem, h3]
      · rintro e w2 ⟨rfl, rfl⟩
        exact ⟨_, rfl, _, rfl, ⟨_, rfl, by omega, Row.made _ _ _ _⟩, by simp [RT]; exact (Below.refl _ _).alloc (Nat.le_refl _) _, hal _, fun j x _ hx => hps hx rfl⟩
    · refine step_of_run (v := .int .i64 n) (w' := w1) ?_ ⟨_, rfl, rfl, by simp [RT, Below.refl], hJ, fun j x _ _ => psiT_none rfl⟩
      simp [mkT, go_sem]
    · have h3 : u 7 = .int .i64 n := hφ ⟨7, .data⟩ (by simp) rfl
      refine step_of_call (f := 32) (args := #[.int .i64 n]) (w' := w1) ?_ ((newSet n nw hn hw _).mono ?_)
      · simp [mkT, go_sem, h3]
      · rintro e w2 ⟨rfl, rfl⟩
        exact ⟨_, rfl, _, rfl, ⟨_, rfl, by omega, Row.made _ _ _ _⟩, by simp [RT]; exact (Below.refl _ _).alloc (Nat.le_refl _) _, hal _, fun j x _ hx => hps hx rfl⟩
    · have h0 : u 0 = .int .i64 n := hφ ⟨0, .data⟩ (by simp) rfl
      obtain ⟨gz, e1, b1, r1⟩ := (hφ ⟨2, .data⟩ (by simp) rfl : phiT w.heap.size n nw 2 (u 2) w1)
      obtain ⟨go, e2, b2, r2⟩ := (hφ ⟨4, .data⟩ (by simp) rfl : phiT w.heap.size n nw 4 (u 4) w1)
      obtain ⟨gk, e3, b3, r3⟩ := (hφ ⟨6, .data⟩ (by simp) rfl : phiT w.heap.size n nw 6 (u 6) w1)
      obtain ⟨gr, e4, b4, r4⟩ := (hφ ⟨8, .data⟩ (by simp) rfl : phiT w.heap.size n nw 8 (u 8) w1)
      have d1 : gz ≠ go := by
        have := (hψ ⟨2, .data⟩ (by simp) ⟨4, .data⟩ (by simp) rfl rfl (by decide) : psiT 2 4 (u 2) (u 4)) gz (by rw [e1]; rfl)
        rw [e2] at this
        intro e; subst e; exact this rfl
      have d2 : gk ≠ gr := by
        have := (hψ ⟨6, .data⟩ (by simp) ⟨8, .data⟩ (by simp) rfl rfl (by decide) : psiT 6 8 (u 6) (u 8)) gk (by rw [e3]; rfl)
        rw [e4] at this
        intro e; subst e; exact this rfl
      refine step_of_run (v := _) (w' := w1) ?_ ⟨_, rfl, ⟨gz, go, gk, gr, rfl, b1, b2, b3, b4, r1, r2, r3, r4, d1, d2⟩, by simp [RT, Below.refl], hJ, fun j x _ _ => psiT_none rfl⟩
      simp [mkT, go_sem, h0, e1, e2, e3, e4]
    · obtain ⟨gz, go, gk, gr, e9, b1, b2, b3, b4, r1, r2, r3, r4, d1, d2⟩ := (hφ ⟨9, .data⟩ (by simp) rfl : phiT w.heap.size n nw 9 (u 9) w1)
      obtain ⟨hbel, c0, c1, c2, c3, c4, hblk⟩ := hJ
      have hf : ∀ q, w1.frozen? ⟨w.heap.size, q, none⟩ = false := fun q => by simp [World.frozen?, hblk]
      have hc : w1.cell? ⟨w.heap.size, 0, none⟩ = some c0 ∧ w1.cell? ⟨w.heap.size, 1, none⟩ = some c1 ∧ w1.cell? ⟨w.heap.size, 2, none⟩ = some c2 ∧ w1.cell? ⟨w.heap.size, 3, none⟩ = some c3 ∧ w1.cell? ⟨w.heap.size, 4, none⟩ = some c4 := by simp [World.cell?, hblk]
      obtain ⟨hc0, hc1, hc2, hc3, hc4⟩ := hc
      refine step_of_skip (w' := ((((w1.setCell ⟨w.heap.size, 0, none⟩ (.int .i64 n)).setCell ⟨w.heap.size, 1, none⟩ (.slice (some ⟨gz, 0, none⟩) n n)).setCell ⟨w.heap.size, 2, none⟩ (.slice (some ⟨go, 0, none⟩) n n)).setCell ⟨w.heap.size, 3, none⟩ (.slice (some ⟨gk, 0, none⟩) nw nw)).setCell ⟨w.heap.size, 4, none⟩ (.slice (some ⟨gr, 0, none⟩) nw nw)) ?_ ?_
      · simp [mkT, go_sem, e9, hc0, hc1, hc2, hc3, hc4, hf]
      · have hfar : ∀ k, k ≠ w.heap.size → (((((w1.setCell ⟨w.heap.size, 0, none⟩ (.int .i64 n)).setCell ⟨w.heap.size, 1, none⟩ (.slice (some ⟨gz, 0, none⟩) n n)).setCell ⟨w.heap.size, 2, none⟩ (.slice (some ⟨go, 0, none⟩) n n)).setCell ⟨w.heap.size, 3, none⟩ (.slice (some ⟨gk, 0, none⟩) nw nw)).setCell ⟨w.heap.size, 4, none⟩ (.slice (some ⟨gr, 0, none⟩) nw nw)).heap[k]? = w1.heap[k]? := fun k hk => by
          rw [Below.heap_setCell _ _ _ _ hk, Below.heap_setCell _ _ _ _ hk, Below.heap_setCell _ _ _ _ hk, Below.heap_setCell _ _ _ _ hk, Below.heap_setCell _ _ _ _ hk]
        have hnew : (((((w1.setCell ⟨w.heap.size, 0, none⟩ (.int .i64 n)).setCell ⟨w.heap.size, 1, none⟩ (.slice (some ⟨gz, 0, none⟩) n n)).setCell ⟨w.heap.size, 2, none⟩ (.slice (some ⟨go, 0, none⟩) n n)).setCell ⟨w.heap.size, 3, none⟩ (.slice (some ⟨gk, 0, none⟩) nw nw)).setCell ⟨w.heap.size, 4, none⟩ (.slice (some ⟨gr, 0, none⟩) nw nw)).heap[w.heap.size]? = some (.cells #[.int .i64 n, .slice (some ⟨gz, 0, none⟩) n n, .slice (some ⟨go, 0, none⟩) n n, .slice (some ⟨gk, 0, none⟩) nw nw, .slice (some ⟨gr, 0, none⟩) nw nw] 101 (0, 0)) := by
          simp [World.setCell, Array.getElem?_modify, hblk]
        refine ⟨undef, rfl, ⟨rfl, gz, go, gk, gr, hnew, b1, b2, b3, b4, r1.of_block (hfar _ (by omega)), r2.of_block (hfar _ (by omega)), r3.of_block (hfar _ (by omega)), r4.of_block (hfar _ (by omega)), d1, d2⟩, by simp only [RT, if_true]; exact hfar, ⟨?_, _, _, _, _, _, hnew⟩, fun j x _ _ => psiT_none rfl⟩
        exact ((((hbel.setCell (Nat.le_refl _) _).setCell (Nat.le_refl _) _).setCell (Nat.le_refl _) _).setCell (Nat.le_refl _) _).setCell (Nat.le_refl _) _
  case hend =>
    intro u w1 hJ hφ _
    obtain ⟨_, gz, go, gk, gr, hblk, b1, b2, b3, b4, r1, r2, r3, r4, d1, d2⟩ := (hφ 10 (by decide) : phiT w.heap.size n nw 10 (u 10) w1)
    have hc : w1.cell? ⟨w.heap.size, 0, none⟩ = some (.int .i64 n) ∧ w1.cell? ⟨w.heap.size, 1, none⟩ = some (.slice (some ⟨gz, 0, none⟩) n n) ∧ w1.cell? ⟨w.heap.size, 2, none⟩ = some (.slice (some ⟨go, 0, none⟩) n n) ∧ w1.cell? ⟨w.heap.size, 3, none⟩ = some (.slice (some ⟨gk, 0, none⟩) nw nw) ∧ w1.cell? ⟨w.heap.size, 4, none⟩ = some (.slice (some ⟨gr, 0, none⟩) nw nw) := by simp [World.cell?, hblk]
    obtain ⟨hc0, hc1, hc2, hc3, hc4⟩ := hc
    have HJ := hidT hJ.1
    clear hφ hJ hblk
    simp only [mkT]
    go_wp2
    refine bodyPost_ret (v := .agg #[.int .i64 n, .slice (some ⟨gz, 0, none⟩) n n, .slice (some ⟨go, 0, none⟩) n n, .slice (some ⟨gk, 0, none⟩) nw nw, .slice (some ⟨gr, 0, none⟩) nw nw]) (by simp [results, Yba.results21, go_sem, hc0, hc1, hc2, hc3, hc4]) rfl ⟨gz, go, gk, gr, rfl, by omega, by omega, by omega, by omega, r1, r2, r3, r4, d1, d2, HJ.out⟩
end Go.Proofs.Ybulkcawy
