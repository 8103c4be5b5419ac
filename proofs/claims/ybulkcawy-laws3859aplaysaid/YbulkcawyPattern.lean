/-
  The failure pattern's questions: completes, delivers; the law's own completes; eventsAt.
-/
import Derived.Test.YbulkcawyProc
import Derived.Test.YbulkcawyProc3
namespace Go.Proofs.Ybulkcawy
open Go.RowKit
set_option linter.unusedSimpArgs false
set_option linter.unusedVariables false
set_option maxRecDepth 100000
set_option maxHeartbeats 2000000

/-- Is q alive at the end of round r? -/
def compl (cr : Nat → Nat) (q r : Nat) : Bool := decide (cr q = 0) || decide (r < cr q)

/-- The failure pattern as a value. -/
abbrev fpV (last n C R Lo LO : Nat) (fa : Value) : Value :=
  .agg #[.int .i64 last, .slice (some ⟨C, 0, none⟩) (n + 1) (n + 1), .slice (some ⟨R, 0, none⟩) (n + 1) (n + 1), .slice (some ⟨Lo, 0, none⟩) (n + 1) (n + 1), fa, .slice (some ⟨LO, 0, none⟩) (n + 1) (n + 1)]

theorem completes (last n C R Lo LO q r : Nat) (fa : Value) (hfa : ∃ a l c, fa = .slice a l c) (cr : Nat → Nat) (w : World) (hC : Row w C 3 (n + 1) (fun k => .int .i64 (cr k))) (hq : q ≤ n) :
    Calls Yba.prog 24 #[fpV last n C R Lo LO fa, .int .i64 q, .int .i64 r] w fun e w' => e = .returned (.bool (compl cr q r)) ∧ Only (fun _ => False) w w' := by
  obtain ⟨fa0, fl, fc, rfl⟩ := hfa
  have hCw := hC.lt
  have cC := hC.cell q (by omega)
  have i1 : (0 : Int) ≤ (q : Int) := by omega
  have i2 : (q : Int) < ((n + 1 : Nat) : Int) := by omega
  clear hC
  unfold compl
  by_cases h0 : cr q = 0
  · have h0' : ((cr q : Int) == 0) = true := by simp [h0]
    go_enter Yba.func24, Yba.ntmps24
    go_wp2
    exact bodyPost_ret (v := _) (by simp [results, Yba.results24, h0]) rfl ⟨rfl, Only.refl.alloc _⟩
  · have h0' : ((cr q : Int) == 0) = false := by simp; omega
    go_enter Yba.func24, Yba.ntmps24
    go_wp2
    exact bodyPost_ret (v := _) (by simp [results, Yba.results24, h0]) rfl ⟨rfl, Only.refl.alloc _⟩

theorem ownCompletes (B t q r : Nat) (cr : Nat → Nat) (w : World) (hB : Row w B t 7 (fun k => .int .i64 (cr k))) (hq : q ≤ 6) :
    Calls Yba.prog 8 #[.int .i64 q, .int .i64 r, .pointer (some ⟨B, 0, none⟩)] w fun e w' => e = .returned (.bool (compl cr q r)) ∧ w' = w := by
  have cC := hB.cell q (by omega)
  have i1 : (0 : Int) ≤ (q : Int) := by omega
  have i2 : (q : Int) < 7 := by omega
  clear hB
  unfold compl
  by_cases h0 : cr q = 0
  · have h0' : ((cr q : Int) == 0) = true := by simp [h0]
    go_enter Yba.func8, Yba.ntmps8
    go_wp2
    exact bodyPost_ret (v := _) (by simp [results, Yba.results8, h0]) rfl ⟨rfl, rfl⟩
  · have h0' : ((cr q : Int) == 0) = false := by simp; omega
    go_enter Yba.func8, Yba.ntmps8
    go_wp2
    exact bodyPost_ret (v := _) (by simp [results, Yba.results8, h0]) rfl ⟨rfl, rfl⟩

/-- The slice v reads as m Booleans f. -/
def BoolS (w : World) (v : Value) (m : Nat) (f : Nat → Bool) : Prop :=
  (v = .slice none 0 0 ∧ m = 0) ∨ ∃ b, v = .slice (some ⟨b, 0, none⟩) m m ∧ b < w.heap.size ∧ ∀ k, k < m → w.cell? ⟨b, k, none⟩ = some (.bool (f k))

theorem BoolS.form {w : World} {v : Value} {m : Nat} {f : Nat → Bool} (h : BoolS w v m f) : ∃ a, v = .slice a m m := by
  rcases h with ⟨rfl, rfl⟩ | ⟨b, rfl, _⟩
  · exact ⟨none, rfl⟩
  · exact ⟨_, rfl⟩

def deliv (cr : Nat → Nat) (re : Nat → Bool) (m : Nat) (lo : Nat → Bool) (n q i r : Nat) : Bool :=
  !(decide ((r - 1) * (n + 1) + i < m) && lo ((r - 1) * (n + 1) + i)) && (compl cr q r || (decide (cr q = r) && re i))

theorem delivers (last n C R Lo LO q i r m m' : Nat) (fa : Value) (hfa : ∃ a l c, fa = .slice a l c) (cr : Nat → Nat) (reV loV : Nat → Value) (re lo : Nat → Bool) (w : World) (hC : Row w C 3 (n + 1) (fun k => .int .i64 (cr k))) (hR : Row w R 92 (n + 1) reV) (hLo : Row w Lo 92 (n + 1) loV)
    (hlo : BoolS w (loV q) m lo) (hre : cr q = r → BoolS w (reV q) (n + 1) re) (hq : q ≤ n) (hi : i ≤ n) (hr : 1 ≤ r) (hr' : r ≤ 100) (hn : n ≤ 100) (hm : m ≤ 1000000) :
    Calls Yba.prog 25 #[fpV last n C R Lo LO fa, .int .i64 q, .int .i64 i, .int .i64 r] w fun e w' => e = .returned (.bool (deliv cr re m lo n q i r)) ∧ Only (fun _ => False) w w' := by
  have hfa' := hfa
  obtain ⟨fa0, fl, fc, rfl⟩ := hfa
  have hCw := hC.lt
  have hRw := hR.lt
  have hLw := hLo.lt
  have cC := hC.cell q (by omega)
  have cR := hR.cell q (by omega)
  have cL := hLo.cell q (by omega)
  have i1 : (0 : Int) ≤ (q : Int) := by omega
  have i2 : (q : Int) < ((n + 1 : Nat) : Int) := by omega
  obtain ⟨x, hx⟩ : ∃ x, x = (r - 1) * (n + 1) + i := ⟨_, rfl⟩
  have hb : (r - 1) * (n + 1) ≤ 100 * 101 := Nat.mul_le_mul (by omega) (by omega)
  have hx' : ((r : Int) - 1) * ((n : Int) + 1) = (x : Int) - i := by
    rw [hx]
    push_cast [hr]
    omega
  have hx2 : (x : Int) - i + i = x := by omega
  have hxb : (x : Int) - i ≤ 10100 := by omega
  have hxc : 0 ≤ (x : Int) - i := by
    have : i ≤ x := by omega
    omega
  unfold deliv
  rw [← hx]
  have HX := hidP hx
  have HC := hidP hC
  clear hC hR hLo hx hb
  by_cases g1 : x < m
  · obtain ⟨b, hlb, hbw, hbc⟩ : ∃ b, loV q = .slice (some ⟨b, 0, none⟩) m m ∧ b < w.heap.size ∧ ∀ k, k < m → w.cell? ⟨b, k, none⟩ = some (.bool (lo k)) := by
      rcases hlo with ⟨_, h⟩ | h
      · omega
      · exact h
    have cb := hbc x g1
    rw [hlb] at cL
    have j1 : (0 : Int) ≤ (x : Int) := by omega
    have j2 : (x : Int) < (m : Int) := by omega
    have HLB := hidP hlb
    clear hlo hbc hlb
    cases hl : lo x with
    | true =>
      rw [hl] at cb
      go_enter Yba.func25, Yba.ntmps25
      go_wp2
      exact bodyPost_ret (v := _) (by simp [results, Yba.results25, g1, hl]) rfl ⟨rfl, Only.refl.alloc _⟩
    | false =>
      rw [hl] at cb
      go_enter Yba.func25, Yba.ntmps25
      go_wp2_with fail
      refine (completes last n C R Lo LO q r _ hfa' cr _ (HC.out.alloc _) hq).mono ?_
      rintro e w2 ⟨rfl, ho⟩
      have hbx := (Row.newL w [.int .i64 last, .slice (some ⟨C, 0, none⟩) (n + 1) (n + 1), .slice (some ⟨R, 0, none⟩) (n + 1) (n + 1), .slice (some ⟨Lo, 0, none⟩) (n + 1) (n + 1), .slice fa0 fl fc, .slice (some ⟨LO, 0, none⟩) (n + 1) (n + 1)] 47).only ho (fun h => h)
      have cx1 : w2.cell? ⟨w.heap.size, 1, none⟩ = some (.slice (some ⟨C, 0, none⟩) (n + 1) (n + 1)) := hbx.cell 1 (by simp)
      have cx2 : w2.cell? ⟨w.heap.size, 2, none⟩ = some (.slice (some ⟨R, 0, none⟩) (n + 1) (n + 1)) := hbx.cell 2 (by simp)
      have hcell : ∀ b k, b < w.heap.size → w2.cell? ⟨b, k, none⟩ = w.cell? ⟨b, k, none⟩ := fun b k hb => by
        have h1 := World.cell?_of_block (w := w.alloc _) (a := ⟨b, k, none⟩) (ho.block b (by simp; omega) (fun h => h))
        rw [h1]
        exact World.cell?_of_block (w := w) (a := ⟨b, k, none⟩) (heap_alloc_old _ _ hb)
      have cC2 := (hcell C q hCw).trans cC
      have cR2 := (hcell R q hRw).trans cR
      have HO := hidP ho
      clear ho hbx cb cC cR cL
      cases hc : compl cr q r with
      | true =>
        clear hcell
        go_wp2_with fail
        exact bodyPost_ret (v := _) (by simp [results, Yba.results25, hc, g1, hl]) rfl ⟨rfl, (Only.refl.alloc _).trans HO.out⟩
      | false =>
        by_cases hcr : cr q = r
        · obtain ⟨b2, hrb, hbw2, hbc2⟩ : ∃ b, reV q = .slice (some ⟨b, 0, none⟩) (n + 1) (n + 1) ∧ b < w.heap.size ∧ ∀ k, k < n + 1 → w.cell? ⟨b, k, none⟩ = some (.bool (re k)) := by
            rcases hre hcr with ⟨_, h⟩ | h
            · omega
            · exact h
          have cb2 := (hcell b2 i hbw2).trans (hbc2 i (by omega))
          rw [hrb] at cR2
          have k1 : (0 : Int) ≤ (i : Int) := by omega
          have k2 : (i : Int) < ((n + 1 : Nat) : Int) := by omega
          have k3 : ((cr q : Int) == (r : Int)) = true := by simp [hcr]
          have k4 : decide (cr q = r) = true := by simp [hcr]
          have HRE := hidP hre
          have HCR := hidP hcr
          clear hcell hbc2 hrb hre hcr
          go_wp2_with fail
          exact bodyPost_ret (v := _) (by simp [results, Yba.results25, hc, g1, hl, k4]) rfl ⟨rfl, (Only.refl.alloc _).trans HO.out⟩
        · have k3 : ((cr q : Int) == (r : Int)) = false := by simp; omega
          have k4 : decide (cr q = r) = false := by simp [hcr]
          have HRE := hidP hre
          have HCR := hidP hcr
          clear hcell hre hcr
          go_wp2_with fail
          exact bodyPost_ret (v := _) (by simp [results, Yba.results25, hc, g1, hl, k4]) rfl ⟨rfl, (Only.refl.alloc _).trans HO.out⟩
  · obtain ⟨la, hla⟩ := hlo.form
    rw [hla] at cL
    have HLB := hidP hla
    clear hlo hla
    have j2 : ¬ (x : Int) < (m : Int) := by omega
    go_enter Yba.func25, Yba.ntmps25
    go_wp2_with fail
    refine (completes last n C R Lo LO q r _ hfa' cr _ (HC.out.alloc _) hq).mono ?_
    rintro e w2 ⟨rfl, ho⟩
    have hbx := (Row.newL w [.int .i64 last, .slice (some ⟨C, 0, none⟩) (n + 1) (n + 1), .slice (some ⟨R, 0, none⟩) (n + 1) (n + 1), .slice (some ⟨Lo, 0, none⟩) (n + 1) (n + 1), .slice fa0 fl fc, .slice (some ⟨LO, 0, none⟩) (n + 1) (n + 1)] 47).only ho (fun h => h)
    have cx1 : w2.cell? ⟨w.heap.size, 1, none⟩ = some (.slice (some ⟨C, 0, none⟩) (n + 1) (n + 1)) := hbx.cell 1 (by simp)
    have cx2 : w2.cell? ⟨w.heap.size, 2, none⟩ = some (.slice (some ⟨R, 0, none⟩) (n + 1) (n + 1)) := hbx.cell 2 (by simp)
    have hcell : ∀ b k, b < w.heap.size → w2.cell? ⟨b, k, none⟩ = w.cell? ⟨b, k, none⟩ := fun b k hb => by
      have h1 := World.cell?_of_block (w := w.alloc _) (a := ⟨b, k, none⟩) (ho.block b (by simp; omega) (fun h => h))
      rw [h1]
      exact World.cell?_of_block (w := w) (a := ⟨b, k, none⟩) (heap_alloc_old _ _ hb)
    have cC2 := (hcell C q hCw).trans cC
    have cR2 := (hcell R q hRw).trans cR
    have HO := hidP ho
    clear ho hbx cC cR cL
    cases hc : compl cr q r with
    | true =>
      clear hcell
      go_wp2_with fail
      exact bodyPost_ret (v := _) (by simp [results, Yba.results25, hc, g1]) rfl ⟨rfl, (Only.refl.alloc _).trans HO.out⟩
    | false =>
      by_cases hcr : cr q = r
      · obtain ⟨b2, hrb, hbw2, hbc2⟩ : ∃ b, reV q = .slice (some ⟨b, 0, none⟩) (n + 1) (n + 1) ∧ b < w.heap.size ∧ ∀ k, k < n + 1 → w.cell? ⟨b, k, none⟩ = some (.bool (re k)) := by
          rcases hre hcr with ⟨_, h⟩ | h
          · omega
          · exact h
        have cb2 := (hcell b2 i hbw2).trans (hbc2 i (by omega))
        rw [hrb] at cR2
        have k1 : (0 : Int) ≤ (i : Int) := by omega
        have k2 : (i : Int) < ((n + 1 : Nat) : Int) := by omega
        have k3 : ((cr q : Int) == (r : Int)) = true := by simp [hcr]
        have k4 : decide (cr q = r) = true := by simp [hcr]
        have HRE := hidP hre
        have HCR := hidP hcr
        clear hcell hbc2 hrb hre hcr
        go_wp2_with fail
        exact bodyPost_ret (v := _) (by simp [results, Yba.results25, hc, g1, k4]) rfl ⟨rfl, (Only.refl.alloc _).trans HO.out⟩
      · have k3 : ((cr q : Int) == (r : Int)) = false := by simp; omega
        have k4 : decide (cr q = r) = false := by simp [hcr]
        have HRE := hidP hre
        have HCR := hidP hcr
        clear hcell hre hcr
        go_wp2_with fail
        exact bodyPost_ret (v := _) (by simp [results, Yba.results25, hc, g1, k4]) rfl ⟨rfl, (Only.refl.alloc _).trans HO.out⟩
end Go.Proofs.Ybulkcawy
