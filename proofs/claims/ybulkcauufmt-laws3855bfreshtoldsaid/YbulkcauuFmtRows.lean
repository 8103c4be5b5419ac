/-
  NARROWER THAN 'FOR EVERY INPUT', by the rows' own cells (each row's printed sentence says how): LawS3855BView: ifaces, laid · LawS3855BFresh: ifaces, laid.
  DERIVED. THE GIVEN ROWS OF THIS SEAT. 2 by the template 'for every input the law returns true; each argument reads behind the call as it read before'; 0 by the template 'total and deterministic' (their statements: YbulkcauuFmtTotals.lean).
  GIVEN WITH THE SEED: the statements are not yours to turn. If you find one false, say at which input.
  Laid BY PROGRAM, IN A SANDBOX (cutbox-rows.mjs): the forced cells as the released guide's own fill.sh prints them over the translation 5286d997bab2fc7b… (all of the seat's roots in one cut). By AI agents, Wed Nov 11 2026. No macro, syntax, notation, axiom, sorry.
-/
import Derived.Test.YbulkcauuFmtChecked
import GoSem.Claim
import GoSem.ClaimJoined
import GoSem.ClaimMapViews
import Derived.JoinedTies
import Derived.KernelRfl
namespace Go.Proofs.YbulkcauuFmt
/- THE CELL 'sum', in the pinned program and in every row, IS THE sha256 OF THE DUMP (.gsa) THAT YbulkcauuFmtProg.lean LOADS. Nothing in Lean hashes anything: it is a label: what it is worth is what the hold of that sum in a sandbox is worth. -/
noncomputable def Ybaf.pinned : Pinned := { name := "ybulkcauufmt", sum := "5286d997bab2fc7bc4c95dbf1941dd54d7acefdd9b96cb31be82e50b90390377", checked := Ybaf.checked }
namespace Rows
def none {H : Type} : Left H := { results := [], args := [] }

/- WHAT THE LISTED PACKAGE-LEVEL VARIABLES READ AS WHEN THE CALL BEGINS. Each datum BY PROGRAM (the guide's laid-datum.mjs) off the statement by which the dump's own 'gosem.cut.vars' lays the variable. In a bare row this is a premise. The card (YbulkcauuFmtCards.lean) ties it to the program's text. -/
def laid_example_com_lozenge_lozenge_ErrGroupSize {H : Type} : DataW H := .iface "*errors.errorString" (.ptr (.agg [.lit (.string [108, 111, 122, 101, 110, 103, 101, 58, 32, 103, 114, 111, 117, 112, 32, 115, 105, 122, 101, 32, 111, 117, 116, 32, 111, 102, 32, 114, 97, 110, 103, 101])]))
def laid_example_com_lozenge_lozenge_ErrFaults {H : Type} : DataW H := .iface "*errors.errorString" (.ptr (.agg [.lit (.string [108, 111, 122, 101, 110, 103, 101, 58, 32, 102, 97, 117, 108, 116, 32, 98, 111, 117, 110, 100, 32, 111, 117, 116, 32, 111, 102, 32, 114, 97, 110, 103, 101])]))

/-- 'node.LawS3855BView': WHATEVER THE INPUT: true; the input reads as it did. -/
def lawS3855BViewSpec : ChangeSpec := { name := "lawS3855BView", vars := ["example.com/lozenge/lozenge.ErrGroupSize", "example.com/lozenge/lozenge.ErrFaults"], fn := fun _ => fun
  | [d1, d2, d3, g1, g2] => { results := [.lit (.bool true)], args := [d1, d2, d3], vars := [g1, g2] }
  | _ => none }
def lawS3855BViewRow : OpenClaim := { program := "ybulkcauufmt", sum := "5286d997bab2fc7bc4c95dbf1941dd54d7acefdd9b96cb31be82e50b90390377", func := "example.com/lozenge/lozenge/internal/node.LawS3855BView", spec := "lawS3855BView", stops := ["fmt.errorf"], inPlace := ["fmt.errorf"], unfollowed := true, recurses := true, named := ["example.com/lozenge/lozenge.ErrGroupSize", "example.com/lozenge/lozenge.ErrFaults"], ifaces := true, apart := false, laid := [("example.com/lozenge/lozenge.ErrGroupSize", laid_example_com_lozenge_lozenge_ErrGroupSize), ("example.com/lozenge/lozenge.ErrFaults", laid_example_com_lozenge_lozenge_ErrFaults)] }
/-- NO THEOREM (fmt's text is open here; it may be false): for the released tool's asking of the row's closed facts alone. THE STATEMENT IS 'LawS3855BViewToldSaid' (YbulkcauuFmtCards.lean). -/
def LawS3855BViewFormAsk : Prop := lawS3855BViewRow.holds Ybaf.pinned (OpenSpec.ofChange lawS3855BViewSpec)

/-- ITS FALSE NEIGHBOUR: 'it returns false'. Refute it at one input. -/
def lawS3855BViewWrong : ChangeSpec := { name := "lawS3855BView", vars := ["example.com/lozenge/lozenge.ErrGroupSize", "example.com/lozenge/lozenge.ErrFaults"], fn := fun _ => fun
  | [d1, d2, d3, g1, g2] => { results := [.lit (.bool false)], args := [d1, d2, d3], vars := [g1, g2] }
  | _ => none }
def LawS3855BViewWrongFormAsk : Prop := lawS3855BViewRow.holds Ybaf.pinned (OpenSpec.ofChange lawS3855BViewWrong)

/-- 'node.LawS3855BFresh': WHATEVER THE INPUT: true; the input reads as it did. -/
def lawS3855BFreshSpec : ChangeSpec := { name := "lawS3855BFresh", vars := ["example.com/lozenge/lozenge.ErrGroupSize", "example.com/lozenge/lozenge.ErrFaults"], fn := fun _ => fun
  | [d1, d2, d3, g1, g2] => { results := [.lit (.bool true)], args := [d1, d2, d3], vars := [g1, g2] }
  | _ => none }
def lawS3855BFreshRow : OpenClaim := { program := "ybulkcauufmt", sum := "5286d997bab2fc7bc4c95dbf1941dd54d7acefdd9b96cb31be82e50b90390377", func := "example.com/lozenge/lozenge/internal/node.LawS3855BFresh", spec := "lawS3855BFresh", stops := ["fmt.errorf"], inPlace := ["fmt.errorf"], unfollowed := true, recurses := true, named := ["example.com/lozenge/lozenge.ErrGroupSize", "example.com/lozenge/lozenge.ErrFaults"], ifaces := true, apart := false, laid := [("example.com/lozenge/lozenge.ErrGroupSize", laid_example_com_lozenge_lozenge_ErrGroupSize), ("example.com/lozenge/lozenge.ErrFaults", laid_example_com_lozenge_lozenge_ErrFaults)] }
/-- NO THEOREM (fmt's text is open here; it may be false): for the released tool's asking of the row's closed facts alone. THE STATEMENT IS 'LawS3855BFreshToldSaid' (YbulkcauuFmtCards.lean). -/
def LawS3855BFreshFormAsk : Prop := lawS3855BFreshRow.holds Ybaf.pinned (OpenSpec.ofChange lawS3855BFreshSpec)

/-- ITS FALSE NEIGHBOUR: 'it returns false'. Refute it at one input. -/
def lawS3855BFreshWrong : ChangeSpec := { name := "lawS3855BFresh", vars := ["example.com/lozenge/lozenge.ErrGroupSize", "example.com/lozenge/lozenge.ErrFaults"], fn := fun _ => fun
  | [d1, d2, d3, g1, g2] => { results := [.lit (.bool false)], args := [d1, d2, d3], vars := [g1, g2] }
  | _ => none }
def LawS3855BFreshWrongFormAsk : Prop := lawS3855BFreshRow.holds Ybaf.pinned (OpenSpec.ofChange lawS3855BFreshWrong)

end Rows
end Go.Proofs.YbulkcauuFmt
