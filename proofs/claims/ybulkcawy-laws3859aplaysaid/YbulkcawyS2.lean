/-
  LawS3859APlay: the player's failures are set.
-/
import Derived.Test.YbulkcawyS2a
import Derived.Test.YbulkcawyF3P
namespace Go.Proofs.Ybulkcawy
open Go.RowKit
set_option linter.unusedSimpArgs false
set_option linter.unusedVariables false
set_option maxRecDepth 100000
set_option maxHeartbeats 4000000

/-- Where 'setFailures' finds things. -/
def dSB (p : Inp) (EB s1 PL g1 g2 g3 g4 PR OU SE IN : Nat) (cv ov : Value) : SB := { P := PL, o := 4, tP := 59, NP := 19, n := p.n, last := p.last, C := g1, R := g2, Lo := g3, LO := g4, B := s1 + 1, EB := EB, hi := s1 + 2, mP := plN p.n p.last g1 g2 g3 g4 PR OU SE IN, cv := cv, ov := ov, cl := p.clA p.n, ol := p.olA p.omN }
def mmP (p : Inp) (q : Nat) : Nat := mmF (dSB p 0 0 0 0 0 0 0 0 0 0 0 .nilIface .nilIface) (p.olA p.omN) q
def loP (p : Inp) (q x : Nat) : Bool := loF (dSB p 0 0 0 0 0 0 0 0 0 0 0 .nilIface .nilIface) (p.olA p.omN) q x
/-- The player stands, its failures set. -/
structure Rdy (p : Inp) (EB s1 PL g1 g2 g3 g4 PR OU SE IN : Nat) (fav : Value) (fl : List Nat) (reV loV : Nat → Value) (w : World) : Prop where
  rS : Row w EB 3 1 (fun _ => .int .i64 p.stopA)
  pl : Row w PL 59 19 (fun k => if k = 8 then fav else plN p.n p.last g1 g2 g3 g4 PR OU SE IN k)
  rC : Row w g1 3 (p.n + 1) (fun k => .int .i64 (upTo p.n p.crA k))
  rR : Row w g2 92 (p.n + 1) reV
  rLo : Row w g3 92 (p.n + 1) loV
  rPR : Row w PR 69 (p.n + 1) (fun _ => .nilIface)
  rOU : Row w OU 71 (p.n * 5) outZ
  rSE : Row w SE 20 (p.n + 1) (fun _ => .nilIface)
  rIN : Row w IN 20 p.n (fun _ => .nilIface)
  fa : w.ownsRow (s1 + 2) 3 1 fav fl.length (natsV fl)
  res : ∀ q, 1 ≤ q → q ≤ p.n → upTo p.n p.crA q ≠ 0 → ∃ b, reV q = .slice (some ⟨b, 0, none⟩) (p.n + 1) (p.n + 1) ∧ s1 + 2 ≤ b ∧ Row w b 4 (p.n + 1) (fun i => .bool (reF p.last (p.clA p.n) q i))
  los : ∀ q, 1 ≤ q → q ≤ p.n → (mmP p q = 0 ∧ loV q = .slice none 0 0) ∨ ∃ b, loV q = .slice (some ⟨b, 0, none⟩) (mmP p q) (mmP p q) ∧ s1 + 2 ≤ b ∧ Row w b 4 (mmP p q) (fun x => .bool (loP p q x))
  flm : ∀ q, q ∈ fl ↔ q ∈ flF p.last (p.clA p.n) ∨ (crF p.last (p.clA p.n) q = 0 ∧ hasF (p.olA p.omN) q = true)
  fll : fl.length ≤ 2000
  flq : ∀ q ∈ fl, 1 ≤ q ∧ q ≤ p.n
  low : EB + 2 ≤ PL ∧ EB + 2 ≤ g1 ∧ EB + 2 ≤ g2 ∧ EB + 2 ≤ g3 ∧ EB + 2 ≤ PR ∧ EB + 2 ≤ OU ∧ EB + 2 ≤ SE ∧ EB + 2 ≤ IN
  hi : PL < s1 ∧ g1 < s1 ∧ g2 < s1 ∧ g3 < s1 ∧ PR < s1 ∧ OU < s1 ∧ SE < s1 ∧ IN < s1
  d2 : g2 ≠ g3
  d3 : SE ≠ IN
  sz : s1 + 2 ≤ w.heap.size

theorem roleOk (p : Inp) (hp : p.ok) (EB s1 PL g1 g2 g3 g4 PR OU SE IN : Nat) (cv ov : Value) (w : World) (hpl : Row w PL 59 19 (plN p.n p.last g1 g2 g3 g4 PR OU SE IN)) (h : Parts (EB + 2) p.n g1 g2 g3 g4 PR OU SE IN w) (hEP : EB + 2 ≤ PL) (hs : s1 = w.heap.size) (hE : EB + 2 ≤ s1) :
    SBok (dSB p EB s1 PL g1 g2 g3 g4 PR OU SE IN cv ov) (fun b => if b = PL then 0 else if b = g1 then 1 else if b = g2 then 2 else if b = g3 then 3 else if b = g4 then 4 else 5) := by
  have l0 := hpl.lt
  have l1 := h.r1.lt
  have l2 := h.r2.lt
  have l3 := h.r3.lt
  have l4 := h.r4.lt
  have e1 := h.l1
  have e2 := h.l2
  have e3 := h.l3
  have e4 := h.l4
  have n01 : g1 ≠ PL := row_ne h.r1 hpl (by decide)
  have n02 : g2 ≠ PL := row_ne h.r2 hpl (by decide)
  have n03 : g3 ≠ PL := row_ne h.r3 hpl (by decide)
  have n04 : g4 ≠ PL := row_ne h.r4 hpl (by decide)
  have n12 : g2 ≠ g1 := row_ne h.r2 h.r1 (by decide)
  have n13 : g3 ≠ g1 := row_ne h.r3 h.r1 (by decide)
  have n14 : g4 ≠ g1 := fun e => h.d1 e.symm
  have n23 : g3 ≠ g2 := fun e => h.d2 e.symm
  have n24 : g4 ≠ g2 := row_ne h.r4 h.r2 (by decide)
  have n34 : g4 ≠ g3 := row_ne h.r4 h.r3 (by decide)
  have hn6 := hp.n6
  have hn1 := hp.n1
  have hl5 := hp.l5
  refine ⟨by simp [dSB], by simp [dSB, n01], by simp [dSB, n02, n12], by simp [dSB, n03, n13, n23], by simp [dSB, n04, n14, n24, n34], ?_, ?_, ?_, ?_, ?_, ?_, ?_, ?_, ?_, ?_, ?_, ?_, ?_, ?_, rfl, rfl, rfl, rfl, rfl, hn6, hn1, hl5, ?_, clA_pair p p.n, ?_, ?_, ?_⟩
  · have a0 : s1 + 1 ≠ PL := by omega
    have a1 : s1 + 1 ≠ g1 := by omega
    have a2 : s1 + 1 ≠ g2 := by omega
    have a3 : s1 + 1 ≠ g3 := by omega
    have a4 : s1 + 1 ≠ g4 := by omega
    simp [dSB, a0, a1, a2, a3, a4]
  all_goals try (simp only [dSB]; omega)
  · intro c hc
    obtain ⟨h1, h2, h3, h4⟩ := mem_clA p p.n c hc
    have h5 := p.cA_le c.q
    have h6 := bitsL_len (p.rmA c.q) p.n
    have e5 : c.r = p.cA c.q := by rw [h4]
    have e6 : c.xs = bitsL (p.rmA c.q) p.n := by rw [h4]
    refine ⟨h1, h2, by omega, by omega, by rw [e6]; omega, fun i hi => ?_⟩
    rw [e6] at hi
    exact ((mem_bitsL _ _ _).1 hi).2.1
  · have := p.clA_len p.n
    simp only [dSB]
    omega
  · intro c hc
    obtain ⟨h1, h2, h3, h4, h5, h6⟩ := olA_ok p hp c hc
    exact ⟨h1, h2, h3, h4, by omega, h6⟩
  · have := olA_len p
    simp only [dSB]
    omega

theorem rdy_of (p : Inp) (hp : p.ok) (EB s1 PL g1 g2 g3 g4 PR OU SE IN : Nat) (cv ov : Value) (w w' : World) (hpl : Row w PL 59 19 (plN p.n p.last g1 g2 g3 g4 PR OU SE IN)) (h : Parts (EB + 2) p.n g1 g2 g3 g4 PR OU SE IN w) (hEP : EB + 2 ≤ PL) (hs : s1 = w.heap.size) (hE : EB + 2 ≤ s1) (hS : Row w EB 3 1 (fun _ => .int .i64 p.stopA))
    (hps : SetPost (dSB p EB s1 PL g1 g2 g3 g4 PR OU SE IN cv ov) w w') : ∃ fav fl reV loV, Rdy p EB s1 PL g1 g2 g3 g4 PR OU SE IN fav fl reV loV w' ∧ Only (fun b => EB ≤ b) w w' := by
  obtain ⟨fav, fl, reV, loV, ps, hre, hfl, hfll, hflq, _, _, _, ho⟩ := hps
  have hnS : ∀ {b t k m}, Row w b t k m → t ≠ 59 → t ≠ 3 → t ≠ 92 → ¬ SetS (dSB p EB s1 PL g1 g2 g3 g4 PR OU SE IN cv ov) b := by
    intro b t k m hr h1 h2 h3 e
    have hlt := hr.lt
    rcases e with e | e | e | e | e | e
    · exact row_ne hr hpl h1 e
    · exact row_ne hr h.r1 h2 e
    · exact row_ne hr h.r2 h3 e
    · exact row_ne hr h.r3 h3 e
    · exact row_ne hr h.r4 h2 e
    · simp only [dSB] at e
      omega
  have q1 := h.l1
  have q2 := h.l2
  have q3 := h.l3
  have q4 := h.l4
  have q5 := h.l5
  have q6 := h.l6
  have q7 := h.l7
  have q8 := h.l8
  refine ⟨fav, fl, reV, loV, ⟨hS.only ho ?_, ps.P, ?_, ps.R, ps.Lo, h.r5.only ho (hnS h.r5 (by decide) (by decide) (by decide)), h.r6.only ho (hnS h.r6 (by decide) (by decide) (by decide)), h.r7.only ho (hnS h.r7 (by decide) (by decide) (by decide)), h.r8.only ho (hnS h.r8 (by decide) (by decide) (by decide)), ps.fa, ?_, ?_, hfl, hfll, hflq, ⟨hEP, q1, q2, q3, q5, q6, q7, q8⟩, ?_, h.d2, h.d3, ps.sz⟩, ?_⟩
  · rintro (e | e | e | e | e | e) <;> simp only [dSB] at e <;> omega
  · have := ps.C
    have e : crF (dSB p EB s1 PL g1 g2 g3 g4 PR OU SE IN cv ov).last (dSB p EB s1 PL g1 g2 g3 g4 PR OU SE IN cv ov).cl = upTo p.n p.crA := crF_clA p
    rw [e] at this
    exact this
  · intro q h1 h2 h3
    rcases ps.res q h1 h2 with e | ⟨b, e1, e2, _, e4⟩
    · exact absurd e (hre q h1 h2 (by rw [show crF (dSB p EB s1 PL g1 g2 g3 g4 PR OU SE IN cv ov).last (dSB p EB s1 PL g1 g2 g3 g4 PR OU SE IN cv ov).cl = upTo p.n p.crA from crF_clA p]; exact h3))
    · exact ⟨b, e1, e2, e4⟩
  · intro q h1 h2
    rcases ps.los q h1 h2 with e | ⟨b, e1, e2, _, e4⟩
    · exact .inl e
    · exact .inr ⟨b, e1, e2, e4⟩
  · rw [hs]
    exact ⟨hpl.lt, h.r1.lt, h.r2.lt, h.r3.lt, h.r5.lt, h.r6.lt, h.r7.lt, h.r8.lt⟩
  · refine ho.mono fun b _ e => ?_
    rcases e with e | e | e | e | e | e <;> simp only [dSB] at e <;> omega
end Go.Proofs.Ybulkcawy
