/-
  WHAT BOTH CARDS OF THIS SEAT NEED: closed facts of the program, the two sentinels off 'laid', a world in which they lie (the witness).
-/
import Derived.Test.YbulkcauuFmtCards
import Derived.Test.YbulkcauuFmtTie
import Derived.Test.YbulkcauuFmtFacts
import Derived.ProofKit
import Derived.Stop.JoinedAt
import Derived.Stop.Texts
import Derived.Stop.JoinedTold
import Derived.Stop.LaidErr
import Derived.SevenTiedAt
import Derived.ShutString
import Derived.OpenShut
namespace Go.Proofs.YbulkcauuFmt
open Go.ChangeShapes Go.WideShapes Go.ChangeAt Go.RowKit Go.Kit
open Go.Extern.Stop Go.Stop Go.Extern

theorem own : ownKnob Ybaf.prog.godebug = none := by kernel_rfl
theorem laidOut : laidOutB Ybaf.pinned.checked.prog = true := by kernel_rfl
theorem laidOut' : laidOutB Ybaf.prog = true := by kernel_rfl
theorem stops : Ybaf.pinned.checked.prog.stops = ["fmt.errorf"] := by kernel_rfl
theorem stopKnobs : Ybaf.pinned.checked.prog.stopKnobs = [] := by kernel_rfl
theorem quiet (os : Os) : Stop.quiet Ybaf.pinned.checked.prog os := by
  intro k hk
  rw [stopKnobs] at hk
  cases hk

/-- The two variables' names, and the listed errors' type's name, off the given rows. -/
def nG : String := (Rows.lawS3855BViewSpec.vars).getD 0 ""
def nF : String := (Rows.lawS3855BViewSpec.vars).getD 1 ""
def nmOf : DataW Unit → String
  | .iface nm _ => nm
  | _ => ""
theorem gG : Ybaf.prog.globalNamed nG = some 0 := by kernel_rfl
theorem gF : Ybaf.prog.globalNamed nF = some 1 := by kernel_rfl
theorem gGType : (Ybaf.prog.globals[0]?).map (·.type) = some 52 := by kernel_rfl
theorem gFType : (Ybaf.prog.globals[1]?).map (·.type) = some 52 := by kernel_rfl
theorem cells67 : Ybaf.prog.cellsOf 67 = 1 := by kernel_rfl
theorem cells9 : Ybaf.prog.cellsOf 9 = 1 := by kernel_rfl
theorem row65 (u : TypeId) (h : Ybaf.prog.typeName? 3 u = some (nmOf Rows.laid_example_com_lozenge_lozenge_ErrGroupSize)) : u = 65 :=
  typeName_ptr_named (nm := "errors.errorString") (by kernel_rfl) (by kernel_rfl) (by decide) u (h.trans (congrArg some (by decide)))

def low (P : Program) : Nat := (World.holding P default ⟨#[], #[], []⟩).heap.size
def textOfLaid : DataW Unit → ByteArray
  | .iface _ (.ptr (.agg [.lit (.string s)])) => ⟨s.toArray⟩
  | _ => ⟨#[]⟩
/-- A world in which both sentinels lie as their initialisers lay them: the witness. -/
def laidWorld (P : Program) (os : Os) : World :=
  let w0 := World.holding P os ⟨#[.cells #[.string (textOfLaid Rows.laid_example_com_lozenge_lozenge_ErrGroupSize)] 67, .cells #[.string (textOfLaid Rows.laid_example_com_lozenge_lozenge_ErrFaults)] 67], #[], []⟩
  { w0 with heap := (w0.heap.modify 0 fun
      | .cells _ t frozen => .cells #[.iface 65 (.pointer (some ⟨low P, 0, none⟩))] t frozen
      | o => o).modify 1 fun
      | .cells _ t frozen => .cells #[.iface 65 (.pointer (some ⟨low P + 1, 0, none⟩))] t frozen
      | o => o }
theorem laid_met (os : Os) (args : Array Value) : laidMet Ybaf.prog Rows.lawS3855BViewRow.laid ((laidWorld Ybaf.prog os).forCall (fun _ _ => 0) ⟨#[], args, []⟩).memory :=
  laidMet_of_run (ps := [.cell 0 0, .cell (low Ybaf.prog) 0, .cell 1 0, .cell (low Ybaf.prog + 1) 0]) 8 (by kernel_rfl) (by kernel_rfl) (by kernel_rfl)

theorem var?_below' {P : Program} {B g : Nat} {W W' : World} {n : String} {cs : Array Value} (h : Below B W W') (hg : P.globalNamed n = some g) (hgB : g < B) (hv : W.var? P n = some cs) : W'.var? P n = some cs := by
  unfold World.var? at hv ⊢
  simp only [hg, Option.bind_some] at hv ⊢
  rw [h.block g hgB]
  exact hv
end Go.Proofs.YbulkcauuFmt
