/-
  Small facts on uint64's bits, in a text without a walk.
-/
import Derived.WalkKit
import Derived.Laws.BitsAllLaws
namespace Go.Proofs.Ybulkcawy

/-- The word with bit r alone. -/
def bitAt (r : Nat) : Int := IntKind.u64.wrap (2 ^ r)
theorem bitAt_eq (r : Nat) : IntKind.u64.wrap (2 ^ r) = bitAt r := rfl
theorem bitAt_bd (r : Nat) : 0 ≤ bitAt r ∧ bitAt r < 18446744073709551616 := by
  unfold bitAt
  rw [IntKind.wrap_u64]
  omega
theorem and_zero_u64 (r : Nat) : bits .and .u64 0 (bitAt r) = 0 := by
  obtain ⟨h1, h2⟩ := bitAt_bd r
  rw [u64_and 0 _ (by omega) (by omega) h1 h2]
  simp
theorem or_zero_u64 (r : Nat) : bits .or .u64 0 (bitAt r) = bitAt r := by
  obtain ⟨h1, h2⟩ := bitAt_bd r
  rw [u64_or 0 _ (by omega) (by omega) h1 h2]
  simp
  omega
theorem bitAt_ne (r : Nat) : (bitAt r != bitAt r) = false := by simp
end Go.Proofs.Ybulkcawy
