/-
  The contracts of slices.Clone and slices.Equal at []bool (functions 6 and 8), for slices that the call itself has made.
-/
import Derived.Test.YbulkcauuFmtFacts
import Derived.Deep.AppendLies
import Derived.BigQuiet
import Derived.Deep.QuietTactic
namespace Go.Proofs.YbulkcauuFmt
open Go.RowKit

theorem info4 : (Ybaf.prog.info? 4).map (fun i => (i.zero, i.size, i.bytes)) = some (some (.bool false), 1, 1) := by kernel_rfl

set_option maxRecDepth 100000 in
set_option maxHeartbeats 2000000 in
theorem clone_any (f : Nat → Bool) (m sb cap : Nat) (w : World) (hm : 0 < m) (hm' : m ≤ 100)
    (hs : ∀ q, q < m → w.cell? ⟨sb, q, none⟩ = some (.bool (f q))) :
    Calls Ybaf.prog 6 #[.slice (some ⟨sb, 0, none⟩) m cap] w fun e w' => ∃ g cap', e = .returned (.slice (some ⟨g, 0, none⟩) m cap') ∧
      w'.ownsRow w.heap.size 4 1 (.slice (some ⟨g, 0, none⟩) m cap') m ((List.range m).map fun q => .bool (f q)) ∧ Below w.heap.size w w' := by
  obtain ⟨i0, hi, hz0, hz1, hz2⟩ := info_parts info4
  have hsb : sb < w.heap.size := World.block_lt_of_cell? _ _ (hs 0 hm)
  have hsl := fun (w : World) (a : Addr) (l c : Nat) => Lib.run_eql_slice_nil (P := Ybaf.prog) w 23 4 (some a) l c 0 0 Ybaf.underlying23
  simp only [Option.isNone_some] at hsl
  have HS : Hid _ := hs
  clear hs
  go_enter Ybaf.func6, Ybaf.ntmps6
  go_wp2_with (at_builtin; refine wpList_append_lies _ rfl _ _ 23 rfl w.heap.size 4 i0 (.bool false) 1 1 Ybaf.underlying23 hi hz0 hz1 hz2 rfl (by decide) _ 0 [] rfl ?c0 ⟨sb, 0, none⟩ m cap ((List.range m).map fun q => .bool (f q)) rfl ?cl ?c1 ?c2 hm ?c3 ?c4 ?c5 (w.heap.size + 1) (by simp) ?_)
  case c0 => exact World.ownsRow_made w #[] 0 (Nat.le_refl _) (Nat.zero_le _) rfl
  case cl => simp
  case c1 =>
    intro j u hj
    have hj' : j < m := by
      rcases Nat.lt_or_ge j m with h | h
      · exact h
      · rw [List.getElem?_eq_none (by simp; omega)] at hj; cases hj
    have hu : u = .bool (f j) := by simpa [hj', eq_comm] using hj
    subst hu
    rw [show (⟨sb, 0, none⟩ : Addr).add j = ⟨sb, j, none⟩ from by simp [Addr.add_lit]]
    exact (World.cell?_alloc_lt _ _ _ hsb).trans (HS.out j hj')
  case c2 => intro u hu; simp at hu; obtain ⟨q, _, rfl⟩ := hu; rfl
  case c3 => unfold maxLen; omega
  case c4 => omega
  case c5 => simp
  intro g cap' w1 hown hgrow hat hlt
  go_wp2
  go_ret
  exact ⟨g, cap', rfl, hown, ((Below.refl _ _).alloc (Nat.le_refl _) _).grown hgrow (by simp) (fun k hk => by simp [Value.ownBlock] at hk; omega)⟩

set_option maxRecDepth 100000 in
set_option maxHeartbeats 2000000 in
theorem equal_same (f : Nat → Bool) (m a c a' c' : Nat) (w : World) (hm : m ≤ 100)
    (h1 : ∀ q, q < m → w.cell? ⟨a, q, none⟩ = some (.bool (f q))) (h2 : ∀ q, q < m → w.cell? ⟨a', q, none⟩ = some (.bool (f q))) :
    Calls Ybaf.prog 8 #[.slice (some ⟨a, 0, none⟩) m c, .slice (some ⟨a', 0, none⟩) m c'] w fun e w' => e = .returned (.bool true) ∧ Below w.heap.size w w' := by
  have H1 : Hid _ := h1
  have H2 : Hid _ := h2
  clear h1 h2
  go_enter Ybaf.func8, Ybaf.ntmps8
  go_wp2
  go_loopw [13] (fun i wr => ∃ (k j : Nat), k ≤ m ∧ i = .int .i64 k ∧ wr = w.drewN j) (fun i _ => m - (intOf i).toNat)
  case atStart => exact ⟨0, 0, Nat.zero_le _, rfl, rfl⟩
  case round =>
    obtain ⟨k, j, hk, rfl, rfl⟩ := hrel
    by_cases hlt : k < m
    · have e1 := H1.out k hlt
      have e2 := H2.out k hlt
      have hi : (0 : Int) ≤ (k : Int) := by omega
      have hi' : (k : Int) < (m : Int) := by omega
      have hne : (f k != f k) = false := by simp
      go_wp2_with fail
      go_quiet (fail)
      go_wp2
      go_roundw
      case rel => exact ⟨k + 1, j + nq, by omega, by go_num, rfl⟩
      case measure => simp [intOf]; omega
    · go_wp2
      go_ret
      exact ⟨rfl, below_drewN (Below.refl _ _) _⟩
end Go.Proofs.YbulkcauuFmt
