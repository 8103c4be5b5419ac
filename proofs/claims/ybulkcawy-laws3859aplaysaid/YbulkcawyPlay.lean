/-
  playFrom.
-/
import Derived.Test.YbulkcawyPlay2
namespace Go.Proofs.Ybulkcawy
open Go.RowKit
set_option linter.unusedSimpArgs false
set_option linter.unusedVariables false
set_option maxRecDepth 100000
set_option maxHeartbeats 4000000

/-- What holds ahead of a run. -/
structure Before (c : Cfg) (role : Nat → Nat) (p : Par) (evs : List Ev) (w : World) : Prop where
  base : c.base = w.heap.size + 2
  F : p.F = w.heap.size
  X : p.X = w.heap.size + 1
  pl : Row w c.PL 59 19 c.plM
  cr : Row w c.C 3 (c.n + 1) (fun k => .int .i64 (c.cr k))
  pr : Row w c.PR 69 (c.n + 1) c.procM
  R : Row w c.R 92 (c.n + 1) c.reV
  Lo : Row w c.Lo 92 (c.n + 1) c.loV
  los : ∀ q, 1 ≤ q → q ≤ c.n → BoolF c role w (c.loV q) (p.mm q) (p.lo q)
  res : ∀ q, 1 ≤ q → q ≤ c.n → c.cr q ≠ 0 → BoolF c role w (c.reV q) (c.n + 1) (p.re q)
  fa : IntF c role w c.fa p.fl
  kp : p.keep = true → Row w p.KP 74 (c.n + 1) c.procM
  s : p.keep = true → Row w p.S 3 1 (fun _ => .int .i64 p.s)
  procs : Procs c w (fun _ => 0)
  se : Row w c.SE 20 (c.n + 1) (fun k => msgV (if k = 0 then none else some ((k : Int) * 100 + 1)))
  ib : Row w c.IN 20 c.n (fun _ => .nilIface)
  ou : Row w c.OU 71 (c.n * 5) (outM c.cr (fun _ => none))
  lg : Row w c.L 29 1 (fun _ => .slice none 0 0)
  ev : EvS w p.EB c.L c.ev evs
  evl : evs.length ≤ 1000
  ev1 : 1 ≤ c.last → evs.dropWhile Ev.early = evAt c p 1 1
  co : p.keep = true → Row w p.CO 37 (c.last * c.n) (fun _ => .slice none 0 0)
  yy : p.keep = true → Row w p.Y 3 1 (fun _ => .int .i64 0)
  cr0 : ∀ q, 1 ≤ q → q ≤ c.n → compl c.cr q 0 = true

theorem playFrom (c : Cfg) (role : Nat → Nat) (p : Par) (hl : Lay c role p) (evs : List Ev) (w : World) (hb : Before c role p evs w) :
    Calls Yba.prog 15 #[.pointer (some ⟨c.PL, 0, none⟩), .int .i64 1] w fun e w' => e = .returned (.slice (some ⟨c.OU, 0, none⟩) c.n c.n) ∧ ∃ g', LogAt w' c.base c.L (runL c p c.last 1) g' ∧ Row w' c.OU 71 (c.n * 5) (outM c.cr (dtAt c (endR c p c.last 1))) ∧
      (p.keep = true → Cores w' c.base p.CO (c.last * c.n) g' (cmAt c (endR c p c.last 1) ((stopR c p (endR c p c.last 1)).getD c.n))) ∧ Only (Touch c role) w w' := by
  have HL := hidP hl
  have HP := hidP hb
  have hPLw : c.PL < w.heap.size := hb.pl.lt
  obtain ⟨fa0, fl, fc, hfa⟩ := hl.ap.fasl
  obtain ⟨ea, ec, hev⟩ := hb.ev.len
  obtain ⟨el, hel⟩ : ∃ el, el = evs.length := ⟨_, rfl⟩
  rw [← hel] at hev
  have HEL := hidP hel
  have hnn := hl.n1
  clear hl hb hel
  refine calls_of_wp Yba.func15 rfl ?_
  obtain ⟨T0, hT0⟩ : ∃ T0 : Array Value, T0 = (#[.pointer (some ⟨c.PL, 0, none⟩), Value.int .i64 1] ++ Array.replicate (Yba.f15.ntmps - 2) undef) := ⟨_, rfl⟩
  refine gen_frame (fun U => U.size = 153 ∧ U[0]?.getD undef = .pointer (some ⟨c.PL, 0, none⟩) ∧ U[1]?.getD undef = .int .i64 1) ⟨by simp [Yba.ntmps15], by simp [Yba.ntmps15], by simp [Yba.ntmps15]⟩ ?_
  rintro T ⟨hT, t0, t1⟩
  have a0 : T[0]'(by omega) = _ := at_of _ t0
  have a1 : T[1]'(by omega) = _ := at_of _ t1
  clear hT0
  go_upto_region 1 with fail
  have t0' : (T.setIfInBounds 4 (.slice none 0 0))[0]?.getD undef = .pointer (some ⟨c.PL, 0, none⟩) := by simp [hT, a0]
  have t1' : (T.setIfInBounds 4 (.slice none 0 0))[1]?.getD undef = .int .i64 1 := by simp [hT, a1]
  refine region_chain (by kernel_rfl) _ 153 (by first | rfl | assumption | simp [hT]) [some (.pointer (some ⟨c.PL, 0, none⟩)), some (.pointer (some ⟨c.PL, 0, none⟩)), some (.pointer (some ⟨c.PL, 1, none⟩)), some (.pointer (some ⟨c.PL, 1, none⟩)), some (.int .i64 c.n), some (.pointer (some ⟨c.PL, 0, none⟩)), some (.pointer (some ⟨c.PL, 0, none⟩)), some (.pointer (some ⟨c.PL, 4, none⟩)), some (.agg #[.int .i64 c.last, .slice (some ⟨c.C, 0, none⟩) (c.n + 1) (c.n + 1), .slice (some ⟨c.R, 0, none⟩) (c.n + 1) (c.n + 1), .slice (some ⟨c.Lo, 0, none⟩) (c.n + 1) (c.n + 1), .slice fa0 fl fc, .slice (some ⟨c.LO, 0, none⟩) (c.n + 1) (c.n + 1)]), none, none, none] [9, 10, 11] (fun vs w1 => Row w1 c.PL 59 19 c.plM ∧ (match vs with | [] => w1 = w.drew | [v] => v = .pointer (some ⟨w.heap.size, 0, none⟩) ∧ w1 = w.drew.alloc (.cells #[.int .i64 0, .slice none 0 0, .slice none 0 0, .slice none 0 0, .slice none 0 0, .slice none 0 0] 47) | [v, u] => v = .pointer (some ⟨w.heap.size, 0, none⟩) ∧ u = .int .i64 c.n ∧ w1 = w.drew.alloc (.cells #[.int .i64 0, .slice none 0 0, .slice none 0 0, .slice none 0 0, .slice none 0 0, .slice none 0 0] 47) | [v, u, _] => v = .pointer (some ⟨w.heap.size, 0, none⟩) ∧ u = .int .i64 c.n ∧ Row w1 w.heap.size 47 6 c.fpM ∧ Only (fun _ => False) w w1 ∧ w1.heap.size = w.heap.size + 1 | _ => True)) (by decide) (by decide) (by decide) (by decide) (by decide) (by decide) ?_ ?_ ?_ ⟨HP.out.pl.drew, rfl⟩
  · intro i hi U vs w1 hia hU hK hSt hanc hdep
    have hi' : i < 12 := hi
    rcases (by omega : i = 0 ∨ i = 1 ∨ i = 2 ∨ i = 3 ∨ i = 4 ∨ i = 5 ∨ i = 6 ∨ i = 7 ∨ i = 8 ∨ i = 9 ∨ i = 10 ∨ i = 11) with rfl | rfl | rfl | rfl | rfl | rfl | rfl | rfl | rfl | rfl | rfl | rfl
    · have q1 : w1.cell? ⟨c.PL, 1, none⟩ = some (.int .i64 c.n) := hSt.1.cell 1 (by omega)
      have q4 : w1.cell? ⟨c.PL, 4, none⟩ = some (.int .i64 c.last) := (hSt.1.cell 4 (by omega)).trans (by rfl)
      have q5 : w1.cell? ⟨c.PL, 5, none⟩ = some (.slice (some ⟨c.C, 0, none⟩) (c.n + 1) (c.n + 1)) := (hSt.1.cell 5 (by omega)).trans (by rfl)
      have q6 : w1.cell? ⟨c.PL, 6, none⟩ = some (.slice (some ⟨c.R, 0, none⟩) (c.n + 1) (c.n + 1)) := (hSt.1.cell 6 (by omega)).trans (by rfl)
      have q7 : w1.cell? ⟨c.PL, 7, none⟩ = some (.slice (some ⟨c.Lo, 0, none⟩) (c.n + 1) (c.n + 1)) := (hSt.1.cell 7 (by omega)).trans (by rfl)
      have q8 : w1.cell? ⟨c.PL, 8, none⟩ = some (.slice fa0 fl fc) := (hSt.1.cell 8 (by omega)).trans (by rw [← hfa]; rfl)
      have q9 : w1.cell? ⟨c.PL, 9, none⟩ = some (.slice (some ⟨c.LO, 0, none⟩) (c.n + 1) (c.n + 1)) := (hSt.1.cell 9 (by omega)).trans (by rfl)
      have hx0 : U[0]?.getD undef = .pointer (some ⟨c.PL, 0, none⟩) := kept_of hK 0 (by decide) (by assumption)
      refine step_of_run (v := .pointer (some ⟨c.PL, 0, none⟩)) (w' := _) ?_ ⟨rfl, _, rfl, (fun h => by cases h), rfl⟩
      simp [execOp, go_sem, hx0, q1, q4, q5, q6, q7, q8, q9]
    · have q1 : w1.cell? ⟨c.PL, 1, none⟩ = some (.int .i64 c.n) := hSt.1.cell 1 (by omega)
      have q4 : w1.cell? ⟨c.PL, 4, none⟩ = some (.int .i64 c.last) := (hSt.1.cell 4 (by omega)).trans (by rfl)
      have q5 : w1.cell? ⟨c.PL, 5, none⟩ = some (.slice (some ⟨c.C, 0, none⟩) (c.n + 1) (c.n + 1)) := (hSt.1.cell 5 (by omega)).trans (by rfl)
      have q6 : w1.cell? ⟨c.PL, 6, none⟩ = some (.slice (some ⟨c.R, 0, none⟩) (c.n + 1) (c.n + 1)) := (hSt.1.cell 6 (by omega)).trans (by rfl)
      have q7 : w1.cell? ⟨c.PL, 7, none⟩ = some (.slice (some ⟨c.Lo, 0, none⟩) (c.n + 1) (c.n + 1)) := (hSt.1.cell 7 (by omega)).trans (by rfl)
      have q8 : w1.cell? ⟨c.PL, 8, none⟩ = some (.slice fa0 fl fc) := (hSt.1.cell 8 (by omega)).trans (by rw [← hfa]; rfl)
      have q9 : w1.cell? ⟨c.PL, 9, none⟩ = some (.slice (some ⟨c.LO, 0, none⟩) (c.n + 1) (c.n + 1)) := (hSt.1.cell 9 (by omega)).trans (by rfl)
      have d0 : U[14]?.getD undef = .pointer (some ⟨c.PL, 0, none⟩) := slot_of (chain_of (hdep ⟨0, .data⟩ (by simp) rfl (by decide)) rfl) rfl
      refine step_of_run (v := .pointer (some ⟨c.PL, 0, none⟩)) (w' := _) ?_ ⟨rfl, _, rfl, (fun h => by cases h), rfl⟩
      simp [execOp, go_sem, d0, q1, q4, q5, q6, q7, q8, q9]
    · have q1 : w1.cell? ⟨c.PL, 1, none⟩ = some (.int .i64 c.n) := hSt.1.cell 1 (by omega)
      have q4 : w1.cell? ⟨c.PL, 4, none⟩ = some (.int .i64 c.last) := (hSt.1.cell 4 (by omega)).trans (by rfl)
      have q5 : w1.cell? ⟨c.PL, 5, none⟩ = some (.slice (some ⟨c.C, 0, none⟩) (c.n + 1) (c.n + 1)) := (hSt.1.cell 5 (by omega)).trans (by rfl)
      have q6 : w1.cell? ⟨c.PL, 6, none⟩ = some (.slice (some ⟨c.R, 0, none⟩) (c.n + 1) (c.n + 1)) := (hSt.1.cell 6 (by omega)).trans (by rfl)
      have q7 : w1.cell? ⟨c.PL, 7, none⟩ = some (.slice (some ⟨c.Lo, 0, none⟩) (c.n + 1) (c.n + 1)) := (hSt.1.cell 7 (by omega)).trans (by rfl)
      have q8 : w1.cell? ⟨c.PL, 8, none⟩ = some (.slice fa0 fl fc) := (hSt.1.cell 8 (by omega)).trans (by rw [← hfa]; rfl)
      have q9 : w1.cell? ⟨c.PL, 9, none⟩ = some (.slice (some ⟨c.LO, 0, none⟩) (c.n + 1) (c.n + 1)) := (hSt.1.cell 9 (by omega)).trans (by rfl)
      have d1 : U[15]?.getD undef = .pointer (some ⟨c.PL, 0, none⟩) := slot_of (chain_of (hdep ⟨1, .data⟩ (by simp) rfl (by decide)) rfl) rfl
      refine step_of_run (v := .pointer (some ⟨c.PL, 1, none⟩)) (w' := _) ?_ ⟨rfl, _, rfl, (fun h => by cases h), rfl⟩
      simp [execOp, go_sem, d1, q1, q4, q5, q6, q7, q8, q9]
    · have q1 : w1.cell? ⟨c.PL, 1, none⟩ = some (.int .i64 c.n) := hSt.1.cell 1 (by omega)
      have q4 : w1.cell? ⟨c.PL, 4, none⟩ = some (.int .i64 c.last) := (hSt.1.cell 4 (by omega)).trans (by rfl)
      have q5 : w1.cell? ⟨c.PL, 5, none⟩ = some (.slice (some ⟨c.C, 0, none⟩) (c.n + 1) (c.n + 1)) := (hSt.1.cell 5 (by omega)).trans (by rfl)
      have q6 : w1.cell? ⟨c.PL, 6, none⟩ = some (.slice (some ⟨c.R, 0, none⟩) (c.n + 1) (c.n + 1)) := (hSt.1.cell 6 (by omega)).trans (by rfl)
      have q7 : w1.cell? ⟨c.PL, 7, none⟩ = some (.slice (some ⟨c.Lo, 0, none⟩) (c.n + 1) (c.n + 1)) := (hSt.1.cell 7 (by omega)).trans (by rfl)
      have q8 : w1.cell? ⟨c.PL, 8, none⟩ = some (.slice fa0 fl fc) := (hSt.1.cell 8 (by omega)).trans (by rw [← hfa]; rfl)
      have q9 : w1.cell? ⟨c.PL, 9, none⟩ = some (.slice (some ⟨c.LO, 0, none⟩) (c.n + 1) (c.n + 1)) := (hSt.1.cell 9 (by omega)).trans (by rfl)
      have d2 : U[16]?.getD undef = .pointer (some ⟨c.PL, 1, none⟩) := slot_of (chain_of (hdep ⟨2, .data⟩ (by simp) rfl (by decide)) rfl) rfl
      refine step_of_run (v := .pointer (some ⟨c.PL, 1, none⟩)) (w' := _) ?_ ⟨rfl, _, rfl, (fun h => by cases h), rfl⟩
      simp [execOp, go_sem, d2, q1, q4, q5, q6, q7, q8, q9]
    · have q1 : w1.cell? ⟨c.PL, 1, none⟩ = some (.int .i64 c.n) := hSt.1.cell 1 (by omega)
      have q4 : w1.cell? ⟨c.PL, 4, none⟩ = some (.int .i64 c.last) := (hSt.1.cell 4 (by omega)).trans (by rfl)
      have q5 : w1.cell? ⟨c.PL, 5, none⟩ = some (.slice (some ⟨c.C, 0, none⟩) (c.n + 1) (c.n + 1)) := (hSt.1.cell 5 (by omega)).trans (by rfl)
      have q6 : w1.cell? ⟨c.PL, 6, none⟩ = some (.slice (some ⟨c.R, 0, none⟩) (c.n + 1) (c.n + 1)) := (hSt.1.cell 6 (by omega)).trans (by rfl)
      have q7 : w1.cell? ⟨c.PL, 7, none⟩ = some (.slice (some ⟨c.Lo, 0, none⟩) (c.n + 1) (c.n + 1)) := (hSt.1.cell 7 (by omega)).trans (by rfl)
      have q8 : w1.cell? ⟨c.PL, 8, none⟩ = some (.slice fa0 fl fc) := (hSt.1.cell 8 (by omega)).trans (by rw [← hfa]; rfl)
      have q9 : w1.cell? ⟨c.PL, 9, none⟩ = some (.slice (some ⟨c.LO, 0, none⟩) (c.n + 1) (c.n + 1)) := (hSt.1.cell 9 (by omega)).trans (by rfl)
      have d3 : U[17]?.getD undef = .pointer (some ⟨c.PL, 1, none⟩) := slot_of (chain_of (hdep ⟨3, .data⟩ (by simp) rfl (by decide)) rfl) rfl
      refine step_of_run (v := .int .i64 c.n) (w' := _) ?_ ⟨rfl, _, rfl, (fun h => by cases h), rfl⟩
      simp [execOp, go_sem, d3, q1, q4, q5, q6, q7, q8, q9]
    · have q1 : w1.cell? ⟨c.PL, 1, none⟩ = some (.int .i64 c.n) := hSt.1.cell 1 (by omega)
      have q4 : w1.cell? ⟨c.PL, 4, none⟩ = some (.int .i64 c.last) := (hSt.1.cell 4 (by omega)).trans (by rfl)
      have q5 : w1.cell? ⟨c.PL, 5, none⟩ = some (.slice (some ⟨c.C, 0, none⟩) (c.n + 1) (c.n + 1)) := (hSt.1.cell 5 (by omega)).trans (by rfl)
      have q6 : w1.cell? ⟨c.PL, 6, none⟩ = some (.slice (some ⟨c.R, 0, none⟩) (c.n + 1) (c.n + 1)) := (hSt.1.cell 6 (by omega)).trans (by rfl)
      have q7 : w1.cell? ⟨c.PL, 7, none⟩ = some (.slice (some ⟨c.Lo, 0, none⟩) (c.n + 1) (c.n + 1)) := (hSt.1.cell 7 (by omega)).trans (by rfl)
      have q8 : w1.cell? ⟨c.PL, 8, none⟩ = some (.slice fa0 fl fc) := (hSt.1.cell 8 (by omega)).trans (by rw [← hfa]; rfl)
      have q9 : w1.cell? ⟨c.PL, 9, none⟩ = some (.slice (some ⟨c.LO, 0, none⟩) (c.n + 1) (c.n + 1)) := (hSt.1.cell 9 (by omega)).trans (by rfl)
      have hx0 : U[0]?.getD undef = .pointer (some ⟨c.PL, 0, none⟩) := kept_of hK 0 (by decide) (by assumption)
      refine step_of_run (v := .pointer (some ⟨c.PL, 0, none⟩)) (w' := _) ?_ ⟨rfl, _, rfl, (fun h => by cases h), rfl⟩
      simp [execOp, go_sem, hx0, q1, q4, q5, q6, q7, q8, q9]
    · have q1 : w1.cell? ⟨c.PL, 1, none⟩ = some (.int .i64 c.n) := hSt.1.cell 1 (by omega)
      have q4 : w1.cell? ⟨c.PL, 4, none⟩ = some (.int .i64 c.last) := (hSt.1.cell 4 (by omega)).trans (by rfl)
      have q5 : w1.cell? ⟨c.PL, 5, none⟩ = some (.slice (some ⟨c.C, 0, none⟩) (c.n + 1) (c.n + 1)) := (hSt.1.cell 5 (by omega)).trans (by rfl)
      have q6 : w1.cell? ⟨c.PL, 6, none⟩ = some (.slice (some ⟨c.R, 0, none⟩) (c.n + 1) (c.n + 1)) := (hSt.1.cell 6 (by omega)).trans (by rfl)
      have q7 : w1.cell? ⟨c.PL, 7, none⟩ = some (.slice (some ⟨c.Lo, 0, none⟩) (c.n + 1) (c.n + 1)) := (hSt.1.cell 7 (by omega)).trans (by rfl)
      have q8 : w1.cell? ⟨c.PL, 8, none⟩ = some (.slice fa0 fl fc) := (hSt.1.cell 8 (by omega)).trans (by rw [← hfa]; rfl)
      have q9 : w1.cell? ⟨c.PL, 9, none⟩ = some (.slice (some ⟨c.LO, 0, none⟩) (c.n + 1) (c.n + 1)) := (hSt.1.cell 9 (by omega)).trans (by rfl)
      have d5 : U[19]?.getD undef = .pointer (some ⟨c.PL, 0, none⟩) := slot_of (chain_of (hdep ⟨5, .data⟩ (by simp) rfl (by decide)) rfl) rfl
      refine step_of_run (v := .pointer (some ⟨c.PL, 0, none⟩)) (w' := _) ?_ ⟨rfl, _, rfl, (fun h => by cases h), rfl⟩
      simp [execOp, go_sem, d5, q1, q4, q5, q6, q7, q8, q9]
    · have q1 : w1.cell? ⟨c.PL, 1, none⟩ = some (.int .i64 c.n) := hSt.1.cell 1 (by omega)
      have q4 : w1.cell? ⟨c.PL, 4, none⟩ = some (.int .i64 c.last) := (hSt.1.cell 4 (by omega)).trans (by rfl)
      have q5 : w1.cell? ⟨c.PL, 5, none⟩ = some (.slice (some ⟨c.C, 0, none⟩) (c.n + 1) (c.n + 1)) := (hSt.1.cell 5 (by omega)).trans (by rfl)
      have q6 : w1.cell? ⟨c.PL, 6, none⟩ = some (.slice (some ⟨c.R, 0, none⟩) (c.n + 1) (c.n + 1)) := (hSt.1.cell 6 (by omega)).trans (by rfl)
      have q7 : w1.cell? ⟨c.PL, 7, none⟩ = some (.slice (some ⟨c.Lo, 0, none⟩) (c.n + 1) (c.n + 1)) := (hSt.1.cell 7 (by omega)).trans (by rfl)
      have q8 : w1.cell? ⟨c.PL, 8, none⟩ = some (.slice fa0 fl fc) := (hSt.1.cell 8 (by omega)).trans (by rw [← hfa]; rfl)
      have q9 : w1.cell? ⟨c.PL, 9, none⟩ = some (.slice (some ⟨c.LO, 0, none⟩) (c.n + 1) (c.n + 1)) := (hSt.1.cell 9 (by omega)).trans (by rfl)
      have d6 : U[20]?.getD undef = .pointer (some ⟨c.PL, 0, none⟩) := slot_of (chain_of (hdep ⟨6, .data⟩ (by simp) rfl (by decide)) rfl) rfl
      refine step_of_run (v := .pointer (some ⟨c.PL, 4, none⟩)) (w' := _) ?_ ⟨rfl, _, rfl, (fun h => by cases h), rfl⟩
      simp [execOp, go_sem, d6, q1, q4, q5, q6, q7, q8, q9]
    · have q1 : w1.cell? ⟨c.PL, 1, none⟩ = some (.int .i64 c.n) := hSt.1.cell 1 (by omega)
      have q4 : w1.cell? ⟨c.PL, 4, none⟩ = some (.int .i64 c.last) := (hSt.1.cell 4 (by omega)).trans (by rfl)
      have q5 : w1.cell? ⟨c.PL, 5, none⟩ = some (.slice (some ⟨c.C, 0, none⟩) (c.n + 1) (c.n + 1)) := (hSt.1.cell 5 (by omega)).trans (by rfl)
      have q6 : w1.cell? ⟨c.PL, 6, none⟩ = some (.slice (some ⟨c.R, 0, none⟩) (c.n + 1) (c.n + 1)) := (hSt.1.cell 6 (by omega)).trans (by rfl)
      have q7 : w1.cell? ⟨c.PL, 7, none⟩ = some (.slice (some ⟨c.Lo, 0, none⟩) (c.n + 1) (c.n + 1)) := (hSt.1.cell 7 (by omega)).trans (by rfl)
      have q8 : w1.cell? ⟨c.PL, 8, none⟩ = some (.slice fa0 fl fc) := (hSt.1.cell 8 (by omega)).trans (by rw [← hfa]; rfl)
      have q9 : w1.cell? ⟨c.PL, 9, none⟩ = some (.slice (some ⟨c.LO, 0, none⟩) (c.n + 1) (c.n + 1)) := (hSt.1.cell 9 (by omega)).trans (by rfl)
      have d7 : U[21]?.getD undef = .pointer (some ⟨c.PL, 4, none⟩) := slot_of (chain_of (hdep ⟨7, .data⟩ (by simp) rfl (by decide)) rfl) rfl
      refine step_of_run (v := .agg #[.int .i64 c.last, .slice (some ⟨c.C, 0, none⟩) (c.n + 1) (c.n + 1), .slice (some ⟨c.R, 0, none⟩) (c.n + 1) (c.n + 1), .slice (some ⟨c.Lo, 0, none⟩) (c.n + 1) (c.n + 1), .slice fa0 fl fc, .slice (some ⟨c.LO, 0, none⟩) (c.n + 1) (c.n + 1)]) (w' := _) ?_ ⟨rfl, _, rfl, (fun h => by cases h), rfl⟩
      simp [execOp, go_sem, d7, q1, q4, q5, q6, q7, q8, q9]
    · exact absurd (by decide) hia
    · exact absurd (by decide) hia
    · exact absurd (by decide) hia
  · intro j hj hi U vs w1 hlen hU hK hSt hdep hprev
    have hj' : j < 3 := hj
    rcases (by omega : j = 0 ∨ j = 1 ∨ j = 2) with rfl | rfl | rfl
    · obtain rfl : vs = [] := List.eq_nil_of_length_eq_zero hlen
      obtain ⟨hpl, rfl⟩ := hSt
      refine step_of_run (v := .pointer (some ⟨w.heap.size, 0, none⟩)) (w' := w.drew.alloc (.cells #[.int .i64 0, .slice none 0 0, .slice none 0 0, .slice none 0 0, .slice none 0 0, .slice none 0 0] 47)) ?_ ⟨_, rfl, (fun h => by cases h), hpl.alloc _, rfl, rfl⟩
      simp [execOp, go_sem]
    · obtain ⟨v0, rfl⟩ : ∃ v0, vs = [v0] := by
        match vs, hlen with | [v0], _ => exact ⟨v0, rfl⟩
      have p0 : U[6]?.getD undef = v0 := slot_of (hprev 0 (by decide)) rfl
      have d4 : U[18]?.getD undef = .int .i64 c.n := slot_of (chain_of (hdep ⟨4, .data⟩ (by simp) rfl (by decide)) rfl) rfl
      obtain ⟨hpl, hv, hw1⟩ := hSt
      refine step_of_run (v := .int .i64 c.n) (w' := w1) ?_ ⟨_, rfl, (fun h => by cases h), hpl, hv, rfl, hw1⟩
      simp [execOp, go_sem, d4, p0]
    · obtain ⟨v0, v1, rfl⟩ : ∃ v0 v1, vs = [v0, v1] := by
        match vs, hlen with | [v0, v1], _ => exact ⟨v0, v1, rfl⟩
      have p0 : U[6]?.getD undef = v0 := slot_of (hprev 0 (by decide)) rfl
      have p1 : U[5]?.getD undef = v1 := slot_of (hprev 1 (by decide)) rfl
      have d8 : U[22]?.getD undef = .agg #[.int .i64 c.last, .slice (some ⟨c.C, 0, none⟩) (c.n + 1) (c.n + 1), .slice (some ⟨c.R, 0, none⟩) (c.n + 1) (c.n + 1), .slice (some ⟨c.Lo, 0, none⟩) (c.n + 1) (c.n + 1), .slice fa0 fl fc, .slice (some ⟨c.LO, 0, none⟩) (c.n + 1) (c.n + 1)] := slot_of (chain_of (hdep ⟨8, .data⟩ (by simp) rfl (by decide)) rfl) rfl
      obtain ⟨hpl, rfl, rfl, rfl⟩ := hSt
      have hr0 := Row.newL w.drew [.int .i64 0, .slice none 0 0, .slice none 0 0, .slice none 0 0, .slice none 0 0, .slice none 0 0] 47
      have k0 := hr0.cell 0 (by simp)
      have k1 := hr0.cell 1 (by simp)
      have k2 := hr0.cell 2 (by simp)
      have k3 := hr0.cell 3 (by simp)
      have k4 := hr0.cell 4 (by simp)
      have k5 := hr0.cell 5 (by simp)
      have kf := fun q => hr0.frozen q
      refine step_of_skip (w' := (((((((w.drew.alloc (.cells #[.int .i64 0, .slice none 0 0, .slice none 0 0, .slice none 0 0, .slice none 0 0, .slice none 0 0] 47)).setCell ⟨w.heap.size, 0, none⟩ (.int .i64 c.last)).setCell ⟨w.heap.size, 1, none⟩ (.slice (some ⟨c.C, 0, none⟩) (c.n + 1) (c.n + 1))).setCell ⟨w.heap.size, 2, none⟩ (.slice (some ⟨c.R, 0, none⟩) (c.n + 1) (c.n + 1))).setCell ⟨w.heap.size, 3, none⟩ (.slice (some ⟨c.Lo, 0, none⟩) (c.n + 1) (c.n + 1))).setCell ⟨w.heap.size, 4, none⟩ (.slice fa0 fl fc)).setCell ⟨w.heap.size, 5, none⟩ (.slice (some ⟨c.LO, 0, none⟩) (c.n + 1) (c.n + 1)))) ?_ ⟨undef, rfl, (fun _ => rfl), ?_, rfl, rfl, ?_, ?_, by simp [World.setCell]⟩
      · simp [execOp, go_sem, d8, p0, p1] at k0 k1 k2 k3 k4 k5 kf ⊢
      · have hne : c.PL ≠ w.heap.size := by omega
        exact (((((hpl.far _ _ hne).far _ _ hne).far _ _ hne).far _ _ hne).far _ _ hne).far _ _ hne
      · refine ((((((hr0.set 0 _).set 1 _).set 2 _).set 3 _).set 4 _).set 5 _).ext fun q hq => ?_
        have hq' : q < 6 := by simpa using hq
        rcases (by omega : q = 0 ∨ q = 1 ∨ q = 2 ∨ q = 3 ∨ q = 4 ∨ q = 5) with rfl | rfl | rfl | rfl | rfl | rfl <;> simp [Cfg.fpM, hfa]
      · exact Only.setCell (Only.setCell (Only.setCell (Only.setCell (Only.setCell (Only.setCell (Only.refl.drew.alloc _) (fun h => by simp at h) _) (fun h => by simp at h) _) (fun h => by simp at h) _) (fun h => by simp at h) _) (fun h => by simp at h) _) (fun h => by simp at h) _
  · intro U vs wa hU hKU hlen1 hSt hval hall
    obtain ⟨hpla, hval0, hF, hoa, hsa⟩ : Row wa c.PL 59 19 c.plM ∧ (vs.getD 0 undef = .pointer (some ⟨w.heap.size, 0, none⟩) ∧ vs.getD 1 undef = .int .i64 c.n) ∧ Row wa w.heap.size 47 6 c.fpM ∧ Only (fun _ => False) w wa ∧ wa.heap.size = w.heap.size + 1 := by
      match vs, hlen1, hSt with
      | [_, _, _], _, h => exact ⟨h.1, ⟨h.2.1, h.2.2.1⟩, h.2.2.2.1, h.2.2.2.2.1, h.2.2.2.2.2⟩
    have u0 : U[0]?.getD undef = .pointer (some ⟨c.PL, 0, none⟩) := kept_of hKU 0 (by decide) t0'
    have u1 : U[1]?.getD undef = .int .i64 1 := kept_of hKU 1 (by decide) t1'
    have u6 : U[6]?.getD undef = .pointer (some ⟨w.heap.size, 0, none⟩) := (slot_of (hval 0 (by decide)) rfl).trans hval0.1
    have u5 : U[5]?.getD undef = .int .i64 c.n := (slot_of (hval 1 (by decide)) rfl).trans hval0.2
    have hPLa : c.PL < wa.heap.size := by omega
    clear hKU hSt hval hall hval0 t0' t1'
    go_upto_region 2 with fail
    refine region_chain (by kernel_rfl) _ 153 hU [some (.pointer (some ⟨c.PL, 0, none⟩)), some (.pointer (some ⟨c.PL, 0, none⟩)), some (.pointer (some ⟨c.PL, 12, none⟩)), some (.slice (some ⟨c.SE, 0, none⟩) (c.n + 1) (c.n + 1)), some (.pointer (some ⟨c.PL, 0, none⟩)), some (.pointer (some ⟨c.PL, 0, none⟩)), some (.pointer (some ⟨c.PL, 13, none⟩)), some (.slice (some ⟨c.IN, 0, none⟩) c.n c.n), some (.pointer (some ⟨c.PL, 0, none⟩)), some (.pointer (some ⟨c.PL, 0, none⟩)), some (.pointer (some ⟨c.PL, 15, none⟩)), some (.slice ea el ec), none, none, none, none] [12, 13, 14, 15] (fun vs w1 => Row w1 c.PL 59 19 c.plM ∧ (match vs with | [] => w1 = wa.drew | [v] => v = .pointer (some ⟨wa.heap.size, 0, none⟩) ∧ w1 = wa.drew.alloc (.cells #[.slice none 0 0] 37) | [v, u] => v = .pointer (some ⟨wa.heap.size, 0, none⟩) ∧ u = .slice (some ⟨c.SE, 0, none⟩) (c.n + 1) (c.n + 1) ∧ w1 = wa.drew.alloc (.cells #[.slice none 0 0] 37) | [v, u, u2] => v = .pointer (some ⟨wa.heap.size, 0, none⟩) ∧ u = .slice (some ⟨c.SE, 0, none⟩) (c.n + 1) (c.n + 1) ∧ u2 = .slice (some ⟨c.IN, 0, none⟩) c.n c.n ∧ w1 = wa.drew.alloc (.cells #[.slice none 0 0] 37) | [v, u, u2, _] => v = .pointer (some ⟨wa.heap.size, 0, none⟩) ∧ u = .slice (some ⟨c.SE, 0, none⟩) (c.n + 1) (c.n + 1) ∧ u2 = .slice (some ⟨c.IN, 0, none⟩) c.n c.n ∧ Row w1 wa.heap.size 37 1 (fun _ => .slice ea el ec) ∧ Only (fun _ => False) wa w1 ∧ w1.heap.size = wa.heap.size + 1 | _ => True)) (by decide) (by decide) (by decide) (by decide) (by decide) (by decide) ?_ ?_ ?_ ⟨hpla.drew, rfl⟩
    · intro i hi U vs w1 hia hU hK hSt hanc hdep
      have hi' : i < 16 := hi
      rcases (by omega : i = 0 ∨ i = 1 ∨ i = 2 ∨ i = 3 ∨ i = 4 ∨ i = 5 ∨ i = 6 ∨ i = 7 ∨ i = 8 ∨ i = 9 ∨ i = 10 ∨ i = 11 ∨ i = 12 ∨ i = 13 ∨ i = 14 ∨ i = 15) with rfl | rfl | rfl | rfl | rfl | rfl | rfl | rfl | rfl | rfl | rfl | rfl | rfl | rfl | rfl | rfl
      · have q12 : w1.cell? ⟨c.PL, 12, none⟩ = some (.slice (some ⟨c.SE, 0, none⟩) (c.n + 1) (c.n + 1)) := hSt.1.cell 12 (by omega)
        have q13 : w1.cell? ⟨c.PL, 13, none⟩ = some (.slice (some ⟨c.IN, 0, none⟩) c.n c.n) := hSt.1.cell 13 (by omega)
        have q15 : w1.cell? ⟨c.PL, 15, none⟩ = some (.slice ea el ec) := (hSt.1.cell 15 (by omega)).trans (by rw [← hev]; rfl)
        have hx0 : U[0]?.getD undef = .pointer (some ⟨c.PL, 0, none⟩) := kept_of hK 0 (by decide) (by assumption)
        refine step_of_run (v := .pointer (some ⟨c.PL, 0, none⟩)) (w' := _) ?_ ⟨rfl, _, rfl, (fun h => by cases h), rfl⟩
        simp [execOp, go_sem, hx0, q12, q13, q15]
      · have q12 : w1.cell? ⟨c.PL, 12, none⟩ = some (.slice (some ⟨c.SE, 0, none⟩) (c.n + 1) (c.n + 1)) := hSt.1.cell 12 (by omega)
        have q13 : w1.cell? ⟨c.PL, 13, none⟩ = some (.slice (some ⟨c.IN, 0, none⟩) c.n c.n) := hSt.1.cell 13 (by omega)
        have q15 : w1.cell? ⟨c.PL, 15, none⟩ = some (.slice ea el ec) := (hSt.1.cell 15 (by omega)).trans (by rw [← hev]; rfl)
        have d0 : U[23]?.getD undef = .pointer (some ⟨c.PL, 0, none⟩) := slot_of (chain_of (hdep ⟨0, .data⟩ (by simp) rfl (by decide)) rfl) rfl
        refine step_of_run (v := .pointer (some ⟨c.PL, 0, none⟩)) (w' := _) ?_ ⟨rfl, _, rfl, (fun h => by cases h), rfl⟩
        simp [execOp, go_sem, d0, q12, q13, q15]
      · have q12 : w1.cell? ⟨c.PL, 12, none⟩ = some (.slice (some ⟨c.SE, 0, none⟩) (c.n + 1) (c.n + 1)) := hSt.1.cell 12 (by omega)
        have q13 : w1.cell? ⟨c.PL, 13, none⟩ = some (.slice (some ⟨c.IN, 0, none⟩) c.n c.n) := hSt.1.cell 13 (by omega)
        have q15 : w1.cell? ⟨c.PL, 15, none⟩ = some (.slice ea el ec) := (hSt.1.cell 15 (by omega)).trans (by rw [← hev]; rfl)
        have d1 : U[24]?.getD undef = .pointer (some ⟨c.PL, 0, none⟩) := slot_of (chain_of (hdep ⟨1, .data⟩ (by simp) rfl (by decide)) rfl) rfl
        refine step_of_run (v := .pointer (some ⟨c.PL, 12, none⟩)) (w' := _) ?_ ⟨rfl, _, rfl, (fun h => by cases h), rfl⟩
        simp [execOp, go_sem, d1, q12, q13, q15]
      · have q12 : w1.cell? ⟨c.PL, 12, none⟩ = some (.slice (some ⟨c.SE, 0, none⟩) (c.n + 1) (c.n + 1)) := hSt.1.cell 12 (by omega)
        have q13 : w1.cell? ⟨c.PL, 13, none⟩ = some (.slice (some ⟨c.IN, 0, none⟩) c.n c.n) := hSt.1.cell 13 (by omega)
        have q15 : w1.cell? ⟨c.PL, 15, none⟩ = some (.slice ea el ec) := (hSt.1.cell 15 (by omega)).trans (by rw [← hev]; rfl)
        have d2 : U[25]?.getD undef = .pointer (some ⟨c.PL, 12, none⟩) := slot_of (chain_of (hdep ⟨2, .data⟩ (by simp) rfl (by decide)) rfl) rfl
        refine step_of_run (v := .slice (some ⟨c.SE, 0, none⟩) (c.n + 1) (c.n + 1)) (w' := _) ?_ ⟨rfl, _, rfl, (fun h => by cases h), rfl⟩
        simp [execOp, go_sem, d2, q12, q13, q15]
      · have q12 : w1.cell? ⟨c.PL, 12, none⟩ = some (.slice (some ⟨c.SE, 0, none⟩) (c.n + 1) (c.n + 1)) := hSt.1.cell 12 (by omega)
        have q13 : w1.cell? ⟨c.PL, 13, none⟩ = some (.slice (some ⟨c.IN, 0, none⟩) c.n c.n) := hSt.1.cell 13 (by omega)
        have q15 : w1.cell? ⟨c.PL, 15, none⟩ = some (.slice ea el ec) := (hSt.1.cell 15 (by omega)).trans (by rw [← hev]; rfl)
        have hx0 : U[0]?.getD undef = .pointer (some ⟨c.PL, 0, none⟩) := kept_of hK 0 (by decide) (by assumption)
        refine step_of_run (v := .pointer (some ⟨c.PL, 0, none⟩)) (w' := _) ?_ ⟨rfl, _, rfl, (fun h => by cases h), rfl⟩
        simp [execOp, go_sem, hx0, q12, q13, q15]
      · have q12 : w1.cell? ⟨c.PL, 12, none⟩ = some (.slice (some ⟨c.SE, 0, none⟩) (c.n + 1) (c.n + 1)) := hSt.1.cell 12 (by omega)
        have q13 : w1.cell? ⟨c.PL, 13, none⟩ = some (.slice (some ⟨c.IN, 0, none⟩) c.n c.n) := hSt.1.cell 13 (by omega)
        have q15 : w1.cell? ⟨c.PL, 15, none⟩ = some (.slice ea el ec) := (hSt.1.cell 15 (by omega)).trans (by rw [← hev]; rfl)
        have d4 : U[27]?.getD undef = .pointer (some ⟨c.PL, 0, none⟩) := slot_of (chain_of (hdep ⟨4, .data⟩ (by simp) rfl (by decide)) rfl) rfl
        refine step_of_run (v := .pointer (some ⟨c.PL, 0, none⟩)) (w' := _) ?_ ⟨rfl, _, rfl, (fun h => by cases h), rfl⟩
        simp [execOp, go_sem, d4, q12, q13, q15]
      · have q12 : w1.cell? ⟨c.PL, 12, none⟩ = some (.slice (some ⟨c.SE, 0, none⟩) (c.n + 1) (c.n + 1)) := hSt.1.cell 12 (by omega)
        have q13 : w1.cell? ⟨c.PL, 13, none⟩ = some (.slice (some ⟨c.IN, 0, none⟩) c.n c.n) := hSt.1.cell 13 (by omega)
        have q15 : w1.cell? ⟨c.PL, 15, none⟩ = some (.slice ea el ec) := (hSt.1.cell 15 (by omega)).trans (by rw [← hev]; rfl)
        have d5 : U[28]?.getD undef = .pointer (some ⟨c.PL, 0, none⟩) := slot_of (chain_of (hdep ⟨5, .data⟩ (by simp) rfl (by decide)) rfl) rfl
        refine step_of_run (v := .pointer (some ⟨c.PL, 13, none⟩)) (w' := _) ?_ ⟨rfl, _, rfl, (fun h => by cases h), rfl⟩
        simp [execOp, go_sem, d5, q12, q13, q15]
      · have q12 : w1.cell? ⟨c.PL, 12, none⟩ = some (.slice (some ⟨c.SE, 0, none⟩) (c.n + 1) (c.n + 1)) := hSt.1.cell 12 (by omega)
        have q13 : w1.cell? ⟨c.PL, 13, none⟩ = some (.slice (some ⟨c.IN, 0, none⟩) c.n c.n) := hSt.1.cell 13 (by omega)
        have q15 : w1.cell? ⟨c.PL, 15, none⟩ = some (.slice ea el ec) := (hSt.1.cell 15 (by omega)).trans (by rw [← hev]; rfl)
        have d6 : U[29]?.getD undef = .pointer (some ⟨c.PL, 13, none⟩) := slot_of (chain_of (hdep ⟨6, .data⟩ (by simp) rfl (by decide)) rfl) rfl
        refine step_of_run (v := .slice (some ⟨c.IN, 0, none⟩) c.n c.n) (w' := _) ?_ ⟨rfl, _, rfl, (fun h => by cases h), rfl⟩
        simp [execOp, go_sem, d6, q12, q13, q15]
      · have q12 : w1.cell? ⟨c.PL, 12, none⟩ = some (.slice (some ⟨c.SE, 0, none⟩) (c.n + 1) (c.n + 1)) := hSt.1.cell 12 (by omega)
        have q13 : w1.cell? ⟨c.PL, 13, none⟩ = some (.slice (some ⟨c.IN, 0, none⟩) c.n c.n) := hSt.1.cell 13 (by omega)
        have q15 : w1.cell? ⟨c.PL, 15, none⟩ = some (.slice ea el ec) := (hSt.1.cell 15 (by omega)).trans (by rw [← hev]; rfl)
        have hx0 : U[0]?.getD undef = .pointer (some ⟨c.PL, 0, none⟩) := kept_of hK 0 (by decide) (by assumption)
        refine step_of_run (v := .pointer (some ⟨c.PL, 0, none⟩)) (w' := _) ?_ ⟨rfl, _, rfl, (fun h => by cases h), rfl⟩
        simp [execOp, go_sem, hx0, q12, q13, q15]
      · have q12 : w1.cell? ⟨c.PL, 12, none⟩ = some (.slice (some ⟨c.SE, 0, none⟩) (c.n + 1) (c.n + 1)) := hSt.1.cell 12 (by omega)
        have q13 : w1.cell? ⟨c.PL, 13, none⟩ = some (.slice (some ⟨c.IN, 0, none⟩) c.n c.n) := hSt.1.cell 13 (by omega)
        have q15 : w1.cell? ⟨c.PL, 15, none⟩ = some (.slice ea el ec) := (hSt.1.cell 15 (by omega)).trans (by rw [← hev]; rfl)
        have d8 : U[31]?.getD undef = .pointer (some ⟨c.PL, 0, none⟩) := slot_of (chain_of (hdep ⟨8, .data⟩ (by simp) rfl (by decide)) rfl) rfl
        refine step_of_run (v := .pointer (some ⟨c.PL, 0, none⟩)) (w' := _) ?_ ⟨rfl, _, rfl, (fun h => by cases h), rfl⟩
        simp [execOp, go_sem, d8, q12, q13, q15]
      · have q12 : w1.cell? ⟨c.PL, 12, none⟩ = some (.slice (some ⟨c.SE, 0, none⟩) (c.n + 1) (c.n + 1)) := hSt.1.cell 12 (by omega)
        have q13 : w1.cell? ⟨c.PL, 13, none⟩ = some (.slice (some ⟨c.IN, 0, none⟩) c.n c.n) := hSt.1.cell 13 (by omega)
        have q15 : w1.cell? ⟨c.PL, 15, none⟩ = some (.slice ea el ec) := (hSt.1.cell 15 (by omega)).trans (by rw [← hev]; rfl)
        have d9 : U[32]?.getD undef = .pointer (some ⟨c.PL, 0, none⟩) := slot_of (chain_of (hdep ⟨9, .data⟩ (by simp) rfl (by decide)) rfl) rfl
        refine step_of_run (v := .pointer (some ⟨c.PL, 15, none⟩)) (w' := _) ?_ ⟨rfl, _, rfl, (fun h => by cases h), rfl⟩
        simp [execOp, go_sem, d9, q12, q13, q15]
      · have q12 : w1.cell? ⟨c.PL, 12, none⟩ = some (.slice (some ⟨c.SE, 0, none⟩) (c.n + 1) (c.n + 1)) := hSt.1.cell 12 (by omega)
        have q13 : w1.cell? ⟨c.PL, 13, none⟩ = some (.slice (some ⟨c.IN, 0, none⟩) c.n c.n) := hSt.1.cell 13 (by omega)
        have q15 : w1.cell? ⟨c.PL, 15, none⟩ = some (.slice ea el ec) := (hSt.1.cell 15 (by omega)).trans (by rw [← hev]; rfl)
        have d10 : U[33]?.getD undef = .pointer (some ⟨c.PL, 15, none⟩) := slot_of (chain_of (hdep ⟨10, .data⟩ (by simp) rfl (by decide)) rfl) rfl
        refine step_of_run (v := .slice ea el ec) (w' := _) ?_ ⟨rfl, _, rfl, (fun h => by cases h), rfl⟩
        simp [execOp, go_sem, d10, q12, q13, q15]
      · exact absurd (by decide) hia
      · exact absurd (by decide) hia
      · exact absurd (by decide) hia
      · exact absurd (by decide) hia
    · intro j hj hi U vs w1 hlen hU hK hSt hdep hprev
      have hj' : j < 4 := hj
      rcases (by omega : j = 0 ∨ j = 1 ∨ j = 2 ∨ j = 3) with rfl | rfl | rfl | rfl
      · obtain rfl : vs = [] := List.eq_nil_of_length_eq_zero hlen
        obtain ⟨hpl, rfl⟩ := hSt
        refine step_of_run (v := .pointer (some ⟨wa.heap.size, 0, none⟩)) (w' := wa.drew.alloc (.cells #[.slice none 0 0] 37)) ?_ ⟨_, rfl, (fun h => by cases h), hpl.alloc _, rfl, rfl⟩
        simp [execOp, go_sem]
      · obtain ⟨v0, rfl⟩ : ∃ v0, vs = [v0] := by
          match vs, hlen with | [v0], _ => exact ⟨v0, rfl⟩
        have p0 : U[9]?.getD undef = v0 := slot_of (hprev 0 (by decide)) rfl
        have d3 : U[26]?.getD undef = .slice (some ⟨c.SE, 0, none⟩) (c.n + 1) (c.n + 1) := slot_of (chain_of (hdep ⟨3, .data⟩ (by simp) rfl (by decide)) rfl) rfl
        obtain ⟨hpl, hv, hw1⟩ := hSt
        refine step_of_run (v := .slice (some ⟨c.SE, 0, none⟩) (c.n + 1) (c.n + 1)) (w' := w1) ?_ ⟨_, rfl, (fun h => by cases h), hpl, hv, rfl, hw1⟩
        simp [execOp, go_sem, d3, p0]
      · obtain ⟨v0, v1, rfl⟩ : ∃ v0 v1, vs = [v0, v1] := by
          match vs, hlen with | [v0, v1], _ => exact ⟨v0, v1, rfl⟩
        have p0 : U[9]?.getD undef = v0 := slot_of (hprev 0 (by decide)) rfl
        have p1 : U[7]?.getD undef = v1 := slot_of (hprev 1 (by decide)) rfl
        have d7 : U[30]?.getD undef = .slice (some ⟨c.IN, 0, none⟩) c.n c.n := slot_of (chain_of (hdep ⟨7, .data⟩ (by simp) rfl (by decide)) rfl) rfl
        obtain ⟨hpl, hv, hu, hw1⟩ := hSt
        refine step_of_run (v := .slice (some ⟨c.IN, 0, none⟩) c.n c.n) (w' := w1) ?_ ⟨_, rfl, (fun h => by cases h), hpl, hv, hu, rfl, hw1⟩
        simp [execOp, go_sem, d7, p0, p1]
      · obtain ⟨v0, v1, v2, rfl⟩ : ∃ v0 v1 v2, vs = [v0, v1, v2] := by
          match vs, hlen with | [v0, v1, v2], _ => exact ⟨v0, v1, v2, rfl⟩
        have p0 : U[9]?.getD undef = v0 := slot_of (hprev 0 (by decide)) rfl
        have p1 : U[7]?.getD undef = v1 := slot_of (hprev 1 (by decide)) rfl
        have p2 : U[8]?.getD undef = v2 := slot_of (hprev 2 (by decide)) rfl
        have d11 : U[34]?.getD undef = .slice ea el ec := slot_of (chain_of (hdep ⟨11, .data⟩ (by simp) rfl (by decide)) rfl) rfl
        obtain ⟨hpl, rfl, rfl, rfl, rfl⟩ := hSt
        have hr0 := Row.newL wa.drew [.slice none 0 0] 37
        have k0 := hr0.cell 0 (by simp)
        have kf := fun q => hr0.frozen q
        refine step_of_skip (w' := (wa.drew.alloc (.cells #[.slice none 0 0] 37)).setCell ⟨wa.heap.size, 0, none⟩ (.slice ea el ec)) ?_ ⟨undef, rfl, (fun _ => rfl), hpl.far _ _ (by show c.PL ≠ wa.heap.size; omega), rfl, rfl, rfl, ?_, Only.setCell (Only.refl.drew.alloc _) (fun h => by simp at h) _, by simp [World.setCell]⟩
        · simp [execOp, go_sem, d11, p0, p1, p2] at k0 kf ⊢
        · refine (hr0.set 0 _).ext fun q hq => ?_
          have hq0 : q = 0 := by simpa using hq
          simp [hq0]
    · intro V vs2 wb hV hKV hlen2 hSt hval hall
      obtain ⟨hplb, ⟨hv0, hv1, hv2⟩, hX, hob, hsb⟩ : Row wb c.PL 59 19 c.plM ∧ (vs2.getD 0 undef = .pointer (some ⟨wa.heap.size, 0, none⟩) ∧ vs2.getD 1 undef = .slice (some ⟨c.SE, 0, none⟩) (c.n + 1) (c.n + 1) ∧ vs2.getD 2 undef = .slice (some ⟨c.IN, 0, none⟩) c.n c.n) ∧ Row wb wa.heap.size 37 1 (fun _ => .slice ea el ec) ∧ Only (fun _ => False) wa wb ∧ wb.heap.size = wa.heap.size + 1 := by
        match vs2, hlen2, hSt with
        | [_, _, _, _], _, h => exact ⟨h.1, ⟨h.2.1, h.2.2.1, h.2.2.2.1⟩, h.2.2.2.2.1, h.2.2.2.2.2.1, h.2.2.2.2.2.2⟩
      have hl := HL.out
      have hb := HP.out
      have ho : Only (fun _ => False) w wb := hoa.trans hob
      have hf : Fixed c role p wb := ⟨⟨hplb, hb.cr.only ho (fun h => h), hb.pr.only ho (fun h => h), by rw [hb.base]; omega⟩, hb.R.only ho (fun h => h), hb.Lo.only ho (fun h => h), fun q h1 h2 => (hb.los q h1 h2).only ho (fun _ _ h => h.elim), fun q h1 h2 h3 => (hb.res q h1 h2 h3).only ho (fun _ _ h => h.elim), hb.fa.only ho (fun _ _ h => h.elim), by rw [hb.F]; exact hF.only hob (fun h => h), fun h => (hb.kp h).only ho (fun h => h), fun h => (hb.s h).only ho (fun h => h)⟩
      have hX' : Row wb p.X 37 1 (fun _ => c.ev) := by rw [hb.X, ← hsa, hev]; exact hX
      have v0 : V[0]?.getD undef = .pointer (some ⟨c.PL, 0, none⟩) := kept_of hKV 0 (by decide) u0
      have v1 : V[1]?.getD undef = .int .i64 1 := kept_of hKV 1 (by decide) u1
      have v5 : V[5]?.getD undef = .int .i64 c.n := kept_of hKV 5 (by decide) u5
      have v6 : V[6]?.getD undef = .pointer (some ⟨p.F, 0, none⟩) := (kept_of hKV 6 (by decide) u6).trans (by rw [hb.F])
      have v9 : V[9]?.getD undef = .pointer (some ⟨p.X, 0, none⟩) := (slot_of (hval 0 (by decide)) rfl).trans (by rw [hv0, hb.X, ← hsa])
      have v7 : V[7]?.getD undef = .slice (some ⟨c.SE, 0, none⟩) (c.n + 1) (c.n + 1) := (slot_of (hval 1 (by decide)) rfl).trans hv1
      have v8 : V[8]?.getD undef = .slice (some ⟨c.IN, 0, none⟩) c.n c.n := (slot_of (hval 2 (by decide)) rfl).trans hv2
      have hevb : EvS wb p.EB c.L c.ev evs := hb.ev.only ho (fun b h _ => h.elim)
      have hXE : ∀ a, c.ev.ownBlock = some a → a ≠ p.X := fun a ha => by
        rcases hb.ev with ⟨h, _⟩ | ⟨E, o, cap, h, _, _, _, h4, _⟩
        · rw [h] at ha; simp [Value.ownBlock] at ha
        · rw [h] at ha
          simp [Value.ownBlock] at ha
          have := hb.X
          omega
      have hlg : LogAt wb c.base c.L [] none := ⟨.slice none 0 0, hb.lg.only ho (fun h => h), ⟨rfl, .inl ⟨rfl, rfl⟩⟩, rfl⟩
      have hco : p.keep = true → Cores wb c.base p.CO (c.last * c.n) none (cmAt c 1 0) := fun hk => ⟨fun _ => .slice none 0 0, (hb.co hk).only ho (fun h => h), fun k hk => by
        have e : cmAt c 1 0 k = none := by unfold cmAt; generalize k / c.n = z; rw [if_neg (by omega)]
        rw [e]
        exact rfl⟩
      have hou : Row wb c.OU 71 (c.n * 5) (outM c.cr (dtAt c 0)) := (hb.ou.only ho (fun h => h)).ext fun j hj => by
        have e : dtAt c 0 = fun _ => none := by
          funext q
          unfold dtAt
          have := hl.dec1 q
          rw [if_neg (by omega)]
        rw [e]
      have HMP := hidP (And.intro hlg (And.intro hco (And.intro hou ho)))
      have HFB := hidP hf
      clear hKV hSt hval hall hlg hco hou u0 u1 u5 u6 hpla hF hplb hf
      go_upto_block 0 with fail
      refine play0 p.X p.EB c.L evs c.ev wb V _ hV v1 v9 hX' hevb hXE hb.evl ?_
      intro V0 w0 v' hK0 hX0 hev0 hXE0 ho0
      have hf0 : Fixed c role p w0 := HFB.out.only hl ho0 (fun b _ e => by rw [e]; exact touch_x hl)
      obtain ⟨hlg, hco, hou, _⟩ := HMP.out
      have nX : ∀ b r, role b = r → r ≠ 14 → b ≠ p.X := fun b r h1 h2 h => h2 (by rw [← h1, h, hl.x])
      have hm0 : Mov c role p w0 (fun _ => 0) (fun k => if k = 0 then none else some ((k : Int) * 100 + 1)) (fun _ => none) (dtAt c 0) [] none (evs.dropWhile Ev.early) (cmAt c 1 0) 0 :=
        ⟨fun q h1 h2 => ((hb.procs q h1 h2).only ho (fun h => h)).only ho0 (nX _ _ (hl.ap.ap q) (by omega)), (hb.se.only ho (fun h => h)).only ho0 (nX _ _ hl.ap.se (by decide)), (hb.ib.only ho (fun h => h)).only ho0 (nX _ _ hl.ap.inb (by decide)), hou.only ho0 (nX _ _ hl.ap.ou (by decide)), hlg.only ho0 (nX _ _ hl.ap.log (by decide)) (fun _ h => by cases h), ⟨v', hX0, hev0, hXE0⟩,
          fun hk => (hco hk).only ho0 (NewG.refl _ _) (nX _ _ (hl.kept hk).co (by decide)) (fun b hb' e => by have := hl.bx; omega), fun hk => ((hb.yy hk).only ho (fun h => h)).only ho0 (nX _ _ (hl.kept hk).y (by decide))⟩
      have hV0 : V0.size = 153 := hK0.1.trans hV
      have HM0 := hidP hm0
      have HF0 := hidP hf0
      have ho00 : Only (Touch c role) w w0 := (ho.mono (fun _ _ h => h.elim)).trans' ho0 (fun b _ e => by rw [e]; exact touch_x hl)
      have HO0 := hidP ho00
      have HK0 := hidP hK0
      have d1 := hK0.at' hV0 1 (by decide) v1 (by decide) (by decide)
      clear hm0 hf0 hX0 hev0 hXE0 ho0 hlg hco hou nX hb hl hX' hevb hXE hX hob hoa ho ho00 hK0
      go_upto_block 2 with fail
      have hl := HL.out
      have hb := HP.out
      have hks : ∀ x1 x2, Keeps 10 152 [] V ((V0.setIfInBounds 48 x1).setIfInBounds 10 x2) := fun x1 x2 => by
        repeat (refine Keeps.put ?_ _ _ (by first | exact .inr ⟨by decide, by decide⟩ | exact .inl (by decide)))
        exact HK0.out.mono (fun _ h => by simp at h) (by decide) (by decide)
      refine play2 c role p hl w0 HF0.out _ _ none _ HM0.out (fun q h1 h2 => ?_) hb.ev1 _ _ (by simp [hV0]) ((hks _ _).get v0 (by decide) (by decide)) ((hks _ _).get v5 (by decide) (by decide)) ((hks _ _).get v6 (by decide) (by decide)) ((hks _ _).get v7 (by decide) (by decide)) ((hks _ _).get v8 (by decide) (by decide)) ((hks _ _).get v9 (by decide) (by decide)) (by simp [hV0]) ?_
      · unfold sentAt
        rw [hb.cr0 q h1 h2, if_neg (by omega)]
        rfl
      intro V9 w9 g9 got9 ms9 ib9 evs9 y9 hK9 hm9 ho9
      have hK9' : Keeps 10 152 [] V V9 := Keeps.trans (hks _ _) hK9
      have hV9 : V9.size = 153 := hK9'.1.trans hV
      have d0 := hK9'.at' hV9 0 (by decide) v0 (by decide) (by decide)
      have hf9 : Fixed c role p w9 := HF0.out.only hl ho9 (fun b _ e => e)
      have cOU : w9.cell? ⟨c.PL, 11, none⟩ = some (.slice (some ⟨c.OU, 0, none⟩) c.n c.n) := hf9.st.pl.cell 11 (by omega)
      have HM9 := hidP hm9
      have HO9 := hidP (HO0.out.trans ho9)
      clear hm9 ho9 hf9 hK9 hK9' hks hl hb
      go_wp2_with fail
      exact bodyPost_ret (v := .slice (some ⟨c.OU, 0, none⟩) c.n c.n) (by simp [results, Yba.results15, hV9]) rfl ⟨rfl, g9, HM9.out.lg, HM9.out.ou, HM9.out.co, HO9.out⟩
end Go.Proofs.Ybulkcawy
