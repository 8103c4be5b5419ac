/-
  Blocks of a function's code by their number, and what a frame keeps.
-/
import Derived.Test.YbulkcawyCores
namespace Go.Proofs.Ybulkcawy
open Go.RowKit
set_option linter.unusedSimpArgs false
set_option linter.unusedVariables false

def findB (id : Nat) : Code → Option Code
  | .seq a b => match findB id a with
    | some c => some c
    | none => findB id b
  | .cond _ a b => match findB id a with
    | some c => some c
    | none => findB id b
  | .loop c => findB id c
  | .block i c => if i = id then some (.block i c) else findB id c
  | _ => none

/-- The block of that number in the body of f. -/
def blkOf (f : Go.Func) (id : Nat) : Code := ((f.body).bind (findB id)).getD .skip

theorem Keeps.get {lo hi : Nat} {vs : List Nat} {T T' : Array Value} (h : Keeps lo hi vs T T') {i : Nat} {v : Value} (hv : T[i]?.getD undef = v) (h1 : i ∉ vs) (h2 : ¬ (lo ≤ i ∧ i ≤ hi)) : T'[i]?.getD undef = v := by
  rw [h.2 i h1 h2]; exact hv

theorem Keeps.at' {lo hi : Nat} {vs : List Nat} {T T' : Array Value} {N : Nat} (h : Keeps lo hi vs T T') (hT : T'.size = N) (i : Nat) (hi' : i < N) {v : Value} (hv : T[i]?.getD undef = v) (h1 : i ∉ vs) (h2 : ¬ (lo ≤ i ∧ i ≤ hi)) : T'[i]'(by omega) = v :=
  at_of _ (h.get hv h1 h2)

theorem Kept.keeps {ops : Array Oper} {lo hi : Nat} {vs : List Nat} {T U : Array Value} (h : Kept ops T U) (hs : U.size = T.size) (hc : (ops.toList.all fun o => match o.dst with | none => true | some d => vs.contains d || (decide (lo ≤ d) && decide (d ≤ hi))) = true) : Keeps lo hi vs T U := by
  refine ⟨hs, fun i h1 h2 => h i ?_⟩
  rw [List.all_eq_true] at hc ⊢
  intro o ho
  have := hc o ho
  cases hd : o.dst with
  | none => rfl
  | some d =>
    rw [hd] at this
    simp only [Bool.or_eq_true, List.contains_iff_mem, Bool.and_eq_true, decide_eq_true_eq] at this
    simp only [bne_iff_ne, ne_eq, Option.some.injEq]
    rintro rfl
    rcases this with h | h
    · exact h1 h
    · exact h2 h

end Go.Proofs.Ybulkcawy
