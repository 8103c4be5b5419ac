/-
  DERIVED. GIVEN WITH THE SEED: THE CARDS: each row of YbulkcauuFmtRows.lean that lists a variable, with what it lists TIED to the program's text (the seventh form; the later family's looks); each row that meets fmt, with fmt's text TOLD by the authors' own Lean function (tested against real Go, not proved from fmt's source: count such statements apart). THE CARD IS WHAT COUNTS. Prove the row's statement (the work); the ties are given (YbulkcauuFmtTie.lean); close each card by the builder's one call (the guide's Derived/Test/ToyasCard.lean, 'card_holds'). Laid BY PROGRAM, IN A SANDBOX (cutbox-door.mjs). By AI agents, Wed Nov 11 2026. No macro, syntax, notation, axiom, sorry.
-/
import Derived.Test.YbulkcauuFmtRows
import GoSem.ClaimSeven
namespace Go.Proofs.YbulkcauuFmt
namespace Rows

/-- THE TOLD AND TIED CARD OF 'node.LawS3855BView'. -/
def lawS3855BViewCard : Claim7 := { stood := { row := lawS3855BViewRow, standIns := [], harness := (true, "db3086bf1aa92f345a84af49904f124e3c3910a3b1bb269b105a08bf343dcddf"), looks := true }, told := true, laidByText := true, laidKinds := [.sentinel, .sentinel], laidTests := true, laidLooks := .later, goes := false }
def LawS3855BViewToldSaid : Prop := Claim7.holds Ybaf.pinned (.plain (OpenSpec.ofChange lawS3855BViewSpec)) lawS3855BViewCard
/-- ITS FALSE NEIGHBOUR. Refute it at one input. -/
def LawS3855BViewToldWrongFalsely : Prop := Claim7.holds Ybaf.pinned (.plain (OpenSpec.ofChange lawS3855BViewWrong)) lawS3855BViewCard

/-- THE TOLD AND TIED CARD OF 'node.LawS3855BFresh'. -/
def lawS3855BFreshCard : Claim7 := { stood := { row := lawS3855BFreshRow, standIns := [], harness := (true, "db3086bf1aa92f345a84af49904f124e3c3910a3b1bb269b105a08bf343dcddf"), looks := true }, told := true, laidByText := true, laidKinds := [.sentinel, .sentinel], laidTests := true, laidLooks := .later, goes := false }
def LawS3855BFreshToldSaid : Prop := Claim7.holds Ybaf.pinned (.plain (OpenSpec.ofChange lawS3855BFreshSpec)) lawS3855BFreshCard
/-- ITS FALSE NEIGHBOUR. Refute it at one input. -/
def LawS3855BFreshToldWrongFalsely : Prop := Claim7.holds Ybaf.pinned (.plain (OpenSpec.ofChange lawS3855BFreshWrong)) lawS3855BFreshCard
end Rows
end Go.Proofs.YbulkcauuFmt
