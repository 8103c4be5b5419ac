/-
  THE CLOSED FACTS FOR A WALK OVER fmt's STOPPED FRONT in this dump (after the guide's TrailerFmt.lean, for this program's numbers), and the contracts of the small functions: N, Has, MaxFaults, NewGroup, zzs3855bgroup.
-/
import Derived.Test.YbulkcauuFmtProg
import Derived.WalkKit
import Derived.WalkSpells
import Derived.WalkLawsBesides
import Derived.Laws.EntriesVeiled
import Derived.Stop.CallBack
import Derived.Stop.IfaceNil
import Derived.Deep.RegionWith
import Derived.Deep.DrawnRows
import GoSem.ClaimData
namespace Go.Proofs.YbulkcauuFmt
open Go.RowKit Go.Extern.Stop Go.Stop Go.Extern

-- fmt.errorf: function 18: a plain stop
theorem call18 (args : Array Value) (w : World) : (callFunc 18 args).run Ybaf.prog w = ((FmtStop.errorf #[9, 62] #[52] args).run Ybaf.prog w).andThen fun v w' => .ok (.value v) w' :=
  run_callFunc_extern Ybaf.func18 (by kernel_rfl) (by kernel_rfl) (by kernel_rfl) (by kernel_rfl) args w
theorem guardF (name : String) (w : World) : (FmtStop.guard name).run Ybaf.prog w = .ok () w := by kernel_rfl
-- "%w: %d processes, want %d to %d", 4 operands
theorem fmt0 : FmtStop.printed? ⟨#[37, 119, 58, 32, 37, 100, 32, 112, 114, 111, 99, 101, 115, 115, 101, 115, 44, 32, 119, 97, 110, 116, 32, 37, 100, 32, 116, 111, 32, 37, 100]⟩ 4 = some [(0, 119, false), (1, 100, false), (2, 100, false), (3, 100, false)] := by kernel_rfl
theorem fmt0r (w : World) : (FmtDoors.printed ⟨#[37, 119, 58, 32, 37, 100, 32, 112, 114, 111, 99, 101, 115, 115, 101, 115, 44, 32, 119, 97, 110, 116, 32, 37, 100, 32, 116, 111, 32, 37, 100]⟩ 4).run Ybaf.prog w = .ok [(0, 119, false), (1, 100, false), (2, 100, false), (3, 100, false)] w := by kernel_rfl
def shape3 : List UInt8 := [5, 3, 0, 0, 0, 0, 0, 0, 0, 105, 110, 116]
theorem op3_100w (name : String) (x : Int) (w : World) : (FmtStop.operand name true 100 false (.iface 3 (.int .i64 x))).run Ybaf.prog w = .ok (shape3, Go.Extern.Stop.digits 8 (x % 2 ^ 64).toNat) w := by kernel_rfl
theorem strict3 (name : String) (x : Int) (w : World) : (FmtStop.strict name (.iface 3 (.int .i64 x))).run Ybaf.prog w = .ok (shape3, Go.Extern.Stop.digits 8 (x % 2 ^ 64).toNat) w := by kernel_rfl
theorem ptr65 (w : World) : (FmtStop.ptrTo "errors.errorString").run Ybaf.prog w = .ok 65 w := by kernel_rfl
theorem elem65 (w : World) : (elemOf 65).run Ybaf.prog w = .ok 67 w := by kernel_rfl
theorem isError65 (w : World) : (FmtDoors.textMethod 65 "Error").run Ybaf.prog w = .ok true w := by kernel_rfl
theorem ptr64 (w : World) : (FmtStop.ptrTo "fmt.wrapError").run Ybaf.prog w = .ok 64 w := by kernel_rfl
theorem elem64 (w : World) : (elemOf 64).run Ybaf.prog w = .ok 113 w := by kernel_rfl
theorem isError64 (w : World) : (FmtDoors.textMethod 64 "Error").run Ybaf.prog w = .ok true w := by kernel_rfl
def plain65 : List UInt8 := 14 :: FmtStop.pack "*errors.errorString".toUTF8.data.toList
theorem opPlain65_119w (name : String) (a : Addr) (s : ByteArray) (w : World) (hc : w.cell? a = some (.string s)) :
    (FmtStop.operand name true 119 false (.iface 65 (.pointer (some a)))).run Ybaf.prog w = .ok (plain65, s.data.toList) w := by
  have h1 : (typeStr 65).run Ybaf.prog w = .ok "*errors.errorString" w := by kernel_rfl
  have d2 : Ybaf.t65.desc = .pointer 67 := rfl
  have d3 : Ybaf.t67.desc = .named "errors.errorString" 66 := rfl
  simp [FmtStop.operand, h1, d2, d3, run_load, hc, plain65]
attribute [local go_sem] call18 guardF fmt0 fmt0r op3_100w strict3 ptr65 elem65 isError65 ptr64 elem64 isError64

/-! ### NewGroup(n, 0) -/
set_option maxRecDepth 100000 in
set_option maxHeartbeats 1600000 in
theorem newGroup_err (F : Interp) (n : Int) (a : Addr) (s : ByteArray) (w : World) (hF : F.answers w.tape) (hn : n < 2 ∨ 64 < n)
    (hg : w.cell? ⟨0, 0, none⟩ = some (.iface 65 (.pointer (some a)))) (hs : w.cell? a = some (.string s)) :
    Calls Ybaf.prog 11 #[.int .i64 n, .int .i64 0] w fun e w' => Below w.heap.size w w' ∧ ∃ N, e = .returned (.tuple #[.agg #[.int .i64 0, .int .i64 0], .iface 64 (.pointer (some ⟨N, 0, none⟩))]) := by
  have hF' := answers_open hF
  have h0 : 0 < w.heap.size := World.block_lt_of_cell? _ _ hg
  have h01 : 0 < w.heap.size + 1 := by omega
  have h02 : 0 < w.heap.size + 1 + 1 := by omega
  have ha : a.block < w.heap.size := World.block_lt_of_cell? _ _ hs
  have ha1 : a.block < w.heap.size + 1 := by omega
  have ha2 : a.block < w.heap.size + 1 + 1 := by omega
  have hs2 : ∀ o1 o2, ((w.alloc o1).alloc o2).cell? a = some (.string s) := fun o1 o2 => (World.cell?_alloc_lt _ _ _ (by simpa using ha1)).trans ((World.cell?_alloc_lt _ _ _ ha).trans hs)
  have hop := fun o1 o2 => opPlain65_119w "fmt.errorf" a s ((w.alloc o1).alloc o2) (hs2 o1 o2)
  rcases hn with hn | hn
  all_goals
    go_enter Ybaf.func11, Ybaf.ntmps11
    go_wp2
    refine bodyPost_ret (v := .tuple #[.agg #[.int .i64 0, .int .i64 0], .iface 64 (.pointer (some ⟨w.heap.size + 1 + 1, 0, none⟩))]) (by simp [results, Ybaf.results11, go_sem]) rfl ⟨?_, _, rfl⟩
    exact ((((Below.refl _ _).alloc (Nat.le_refl _) _).alloc (by simp) _).alloc (by simp; omega) _).drew

set_option maxRecDepth 100000 in
set_option maxHeartbeats 1600000 in
theorem newGroup_ok (n : Int) (w : World) (hn : 2 ≤ n) (hn' : n ≤ 64) :
    Calls Ybaf.prog 11 #[.int .i64 n, .int .i64 0] w fun e w' => Below w.heap.size w w' ∧ e = .returned (.tuple #[.agg #[.int .i64 n, .int .i64 0], .nilIface]) := by
  go_enter Ybaf.func11, Ybaf.ntmps11
  go_wp2
  refine bodyPost_ret (v := .tuple #[.agg #[.int .i64 n, .int .i64 0], .nilIface]) (by simp [results, Ybaf.results11, go_sem]) rfl ⟨?_, rfl⟩
  exact (Below.refl _ _).alloc (Nat.le_refl _) _

theorem groupN (n f : Int) (w : World) :
    Calls Ybaf.prog 12 #[.agg #[.int .i64 n, .int .i64 f]] w fun e w' => e = .returned (.int .i64 n) ∧ w' = w.alloc (.cells #[.int .i64 n, .int .i64 f] 25) := by
  go_enter Ybaf.func12, Ybaf.ntmps12
  go_wp2
  go_ret
  exact ⟨rfl, rfl⟩

def hasB (n q : Int) : Bool := decide (1 ≤ q ∧ q ≤ n)
theorem groupHas (n f q : Int) (w : World) :
    Calls Ybaf.prog 13 #[.agg #[.int .i64 n, .int .i64 f], .int .i64 q] w fun e w' => e = .returned (.bool (hasB n q)) ∧ w' = w.alloc (.cells #[.int .i64 n, .int .i64 f] 25) := by
  by_cases h1 : 1 ≤ q
  · by_cases h2 : q ≤ n
    · have hb : hasB n q = true := by simp [hasB, h1, h2]
      rw [hb]; clear hb
      go_enter Ybaf.func13, Ybaf.ntmps13
      go_wp2
      go_ret
      exact ⟨rfl, rfl⟩
    · have hb : hasB n q = false := by simp [hasB, h2]
      rw [hb]; clear hb
      go_enter Ybaf.func13, Ybaf.ntmps13
      go_wp2
      go_ret
      exact ⟨by simp, rfl⟩
  · have hb : hasB n q = false := by simp [hasB, h1]
    rw [hb]; clear hb
    go_enter Ybaf.func13, Ybaf.ntmps13
    go_wp2
    go_ret
    exact ⟨rfl, rfl⟩

/-! ### zzs3855bgroup(n) -/
theorem assert50 (w : World) : (Instr.typeAssert (.iface 50 (.func (.func 11) #[] #[])) 20 50 true).run Ybaf.prog w = .ok (.tuple #[.func (.func 11) #[] #[], .bool true]) w := by kernel_rfl
attribute [local go_sem] assert50
attribute [local go_sem ↓] Go.wp_at_zero Go.wp_at_succ
theorem two_cells {w : World} {b : Nat} {x y : Value} {t : TypeId} (h : w.heap[b]? = some (.cells #[x, y] t (0, 0))) :
    w.cell? ⟨b, 0, none⟩ = some x ∧ w.cell? ⟨b, 1, none⟩ = some y ∧ w.frozen? ⟨b, 0, none⟩ = false ∧ w.frozen? ⟨b, 1, none⟩ = false := by
  simp [World.cell?, World.frozen?, h]
set_option maxRecDepth 100000 in
set_option maxHeartbeats 1600000 in
theorem group_ok (n : Int) (w : World) (hn : 2 ≤ n) (hn' : n ≤ 64) :
    Calls Ybaf.prog 5 #[.int .i64 n] w fun e w' => Below w.heap.size w w' ∧ e = .returned (.tuple #[.agg #[.int .i64 n, .int .i64 0], .bool true]) := by
  have hnn : (n == n) = true := by simp
  go_enter Ybaf.func5, Ybaf.ntmps5
  go_wp2_with fail
  refine (newGroup_ok _ _ hn hn').mono ?_
  rintro e w1 ⟨hb, rfl⟩
  have hblk : w1.heap[w.heap.size]? = some (.cells #[.int .i64 0, .int .i64 0] 25 (0, 0)) := (hb.block _ (by simp)).trans (heap_alloc_new w _)
  obtain ⟨c0, c1, z0, z1⟩ := two_cells hblk
  have hlt : w.heap.size < w1.heap.size := by have := hb.size; simp at this; omega
  have hlt1 : w.heap.size < w1.heap.size + 1 := by omega
  have hlt2 : w.heap.size < w1.heap.size + 1 + 1 := by omega
  have HB : Hid (Below w.heap.size w w1) := ((Below.refl _ _).alloc (Nat.le_refl _) _).trans (hb.mono (by simp))
  clear hb
  go_wp2_with fail
  go_region_with (go_at_call 12; refine (groupN _ _ _).mono ?_; rintro e w' ⟨rfl, rfl⟩)
  all_goals
    go_wp2
    refine bodyPost_ret (v := .tuple #[.agg #[.int .i64 n, .int .i64 0], .bool true]) (by simp [results, Ybaf.results5, go_sem, c0, c1, hlt, hlt1]) rfl ⟨?_, rfl⟩
    exact (((((HB.out.setCell (Nat.le_refl _) _).setCell (Nat.le_refl _) _).alloc (by simp [World.setCell]; omega) _).alloc (by simp [World.setCell]; omega) _)).drew

set_option maxRecDepth 100000 in
set_option maxHeartbeats 1600000 in
theorem group_err (F : Interp) (n : Int) (a : Addr) (s : ByteArray) (w : World) (hF : F.answers w.tape) (hn : n < 2 ∨ 64 < n)
    (hg : w.cell? ⟨0, 0, none⟩ = some (.iface 65 (.pointer (some a)))) (hs : w.cell? a = some (.string s)) :
    Calls Ybaf.prog 5 #[.int .i64 n] w fun e w' => Below w.heap.size w w' ∧ e = .returned (.tuple #[.agg #[.int .i64 0, .int .i64 0], .bool false]) := by
  have h0 : 0 < w.heap.size := World.block_lt_of_cell? _ _ hg
  have ha : a.block < w.heap.size := World.block_lt_of_cell? _ _ hs
  have hg1 : ∀ o1, (w.alloc o1).cell? ⟨0, 0, none⟩ = some (.iface 65 (.pointer (some a))) := fun o1 => (World.cell?_alloc_lt _ _ _ h0).trans hg
  have hs1 : ∀ o1, (w.alloc o1).cell? a = some (.string s) := fun o1 => (World.cell?_alloc_lt _ _ _ ha).trans hs
  have HG : Hid (∀ o1, (w.alloc o1).cell? ⟨0, 0, none⟩ = some (.iface 65 (.pointer (some a)))) := hg1
  have HS : Hid (∀ o1, (w.alloc o1).cell? a = some (.string s)) := hs1
  have HN : Hid (n < 2 ∨ 64 < n) := hn
  clear hg hs hg1 hs1 hn
  go_enter Ybaf.func5, Ybaf.ntmps5
  go_wp2_with fail
  refine (newGroup_err F n a s _ (by exact hF) HN.out (by exact HG.out _) (by exact HS.out _)).mono ?_
  rintro e w1 ⟨hb, N, rfl⟩
  have hblk : w1.heap[w.heap.size]? = some (.cells #[.int .i64 0, .int .i64 0] 25 (0, 0)) := (hb.block _ (by simp)).trans (heap_alloc_new w _)
  obtain ⟨c0, c1, z0, z1⟩ := two_cells hblk
  have hlt : w.heap.size < w1.heap.size := by have := hb.size; simp at this; omega
  have hlt1 : w.heap.size < w1.heap.size + 1 := by omega
  have HB : Hid (Below w.heap.size w w1) := ((Below.refl _ _).alloc (Nat.le_refl _) _).trans (hb.mono (by simp))
  clear hb
  go_wp2_with fail
  go_region
  all_goals
    go_wp2
    refine bodyPost_ret (v := .tuple #[.agg #[.int .i64 0, .int .i64 0], .bool false]) (by simp [results, Ybaf.results5, go_sem, c0, c1, hlt]) rfl ⟨?_, rfl⟩
    exact ((((HB.out.setCell (Nat.le_refl _) _).setCell (Nat.le_refl _) _).alloc (by simp [World.setCell]; omega) _)).drew
end Go.Proofs.YbulkcauuFmt
