/-
  The player's memory, told once.
-/
import Derived.Test.YbulkcawyProc2
import Derived.Test.YbulkcawyProc3
import Derived.Test.YbulkcawyMeter
import Derived.Test.YbulkcawyYield
import Derived.Test.YbulkcawyPattern
import Derived.Test.YbulkcawyEvents
import Derived.Test.YbulkcawyPlainW
namespace Go.Proofs.Ybulkcawy
open Go.RowKit
set_option linter.unusedSimpArgs false
set_option linter.unusedVariables false

/-- Where everything lies while a run is played, and what does not turn. -/
structure Cfg where
  n : Nat
  last : Nat
  base : Nat
  PL : Nat
  C : Nat
  R : Nat
  Lo : Nat
  LO : Nat
  PR : Nat
  OU : Nat
  SE : Nat
  IN : Nat
  L : Nat
  fa : Value
  kp : Value
  ev : Value
  co : Value
  yi : Value
  me : Value
  cr : Nat → Nat
  reV : Nat → Value
  loV : Nat → Value
  ap : Nat → Nat
  dec : Nat → Nat

def Cfg.plM (c : Cfg) (k : Nat) : Value :=
  ([.nilIface, .int .i64 c.n, .int .i64 c.n, .int .i64 0, .int .i64 c.last, .slice (some ⟨c.C, 0, none⟩) (c.n + 1) (c.n + 1), .slice (some ⟨c.R, 0, none⟩) (c.n + 1) (c.n + 1), .slice (some ⟨c.Lo, 0, none⟩) (c.n + 1) (c.n + 1), c.fa, .slice (some ⟨c.LO, 0, none⟩) (c.n + 1) (c.n + 1),
    .slice (some ⟨c.PR, 0, none⟩) (c.n + 1) (c.n + 1), .slice (some ⟨c.OU, 0, none⟩) c.n c.n, .slice (some ⟨c.SE, 0, none⟩) (c.n + 1) (c.n + 1), .slice (some ⟨c.IN, 0, none⟩) c.n c.n, c.kp, c.ev, c.co, c.yi, c.me] : List Value).getD k undef

def Cfg.procM (c : Cfg) (q : Nat) : Value := if q = 0 then .nilIface else .iface 64 (.pointer (some ⟨c.ap q, 0, none⟩))

/-- Each block plays one part: so no two of them are one. -/
structure Cfg.Apart (c : Cfg) (role : Nat → Nat) : Prop where
  pl : role c.PL = 0
  cr : role c.C = 1
  pr : role c.PR = 2
  se : role c.SE = 3
  ou : role c.OU = 4
  inb : role c.IN = 5
  log : role c.L = 6
  re : role c.R = 7
  lo : role c.Lo = 8
  ap : ∀ q, role (c.ap q) = 100 + q % (c.n + 1)
  bpl : c.PL < c.base
  bcr : c.C < c.base
  bpr : c.PR < c.base
  bse : c.SE < c.base
  bou : c.OU < c.base
  bin : c.IN < c.base
  blog : c.L < c.base
  bre : c.R < c.base
  blo : c.Lo < c.base
  bap : ∀ q, c.ap q < c.base
  small : c.n ≤ 6
  small' : c.last ≤ 5
  dsm : ∀ q, c.dec q ≤ 100
  fasl : ∃ a l k, c.fa = .slice a l k

theorem Cfg.Apart.ne {c : Cfg} {role : Nat → Nat} (h : c.Apart role) {x y a b : Nat} (hx : role x = a) (hy : role y = b) (hab : a ≠ b) : x ≠ y := fun e => hab (by rw [← hx, ← hy, e])

/-- What does not turn while the rounds are played. -/
structure Stat (c : Cfg) (w : World) : Prop where
  pl : Row w c.PL 59 19 c.plM
  cr : Row w c.C 3 (c.n + 1) (fun k => .int .i64 (c.cr k))
  pr : Row w c.PR 69 (c.n + 1) c.procM
  bs : c.base ≤ w.heap.size

/-- The set of blocks that stay: those of 'Stat'. -/
theorem Stat.only {c : Cfg} {w w' : World} {S : Nat → Prop} (h : Stat c w) (ho : Only S w w') (h1 : ¬ S c.PL) (h2 : ¬ S c.C) (h3 : ¬ S c.PR) : Stat c w' :=
  ⟨h.pl.only ho h1, h.cr.only ho h2, h.pr.only ho h3, Nat.le_trans h.bs ho.size⟩

/-- The processes. -/
def Procs (c : Cfg) (w : World) (got : Nat → Nat) : Prop := ∀ q, 1 ≤ q → q ≤ c.n → Row w (c.ap q) 67 4 (aprocM q (c.dec q) (got q) c.L)

theorem Procs.only {c : Cfg} {w w' : World} {got : Nat → Nat} {S : Nat → Prop} (h : Procs c w got) (ho : Only S w w') (hS : ∀ q, 1 ≤ q → q ≤ c.n → ¬ S (c.ap q)) : Procs c w' got :=
  fun q h1 h2 => (h q h1 h2).only ho (hS q h1 h2)
end Go.Proofs.Ybulkcawy
