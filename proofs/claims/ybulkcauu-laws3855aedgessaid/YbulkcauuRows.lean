/-
  No cell of these rows narrows 'for every input' (looked for: loops, veiled, ifaces, maps, wideKeys, modest, calm, conditions, laid).
  DERIVED. THE GIVEN ROWS OF THIS SEAT. 4 by the template 'for every input the law returns true; each argument reads behind the call as it read before'; 0 by the template 'total and deterministic' (their statements: YbulkcauuTotals.lean).
  GIVEN WITH THE SEED: the statements are not yours to turn. If you find one false, say at which input.
  Laid BY PROGRAM, IN A SANDBOX (cutbox-rows.mjs): the forced cells as the released guide's own fill.sh prints them over the translation bbc7eed1c6442b71… (all of the seat's roots in one cut). By AI agents, Wed Nov 11 2026. No macro, syntax, notation, axiom, sorry.
-/
import Derived.Test.YbulkcauuChecked
import GoSem.Claim
import GoSem.ClaimJoined
import GoSem.ClaimMapViews
import Derived.JoinedTies
import Derived.KernelRfl
namespace Go.Proofs.Ybulkcauu
/- THE CELL 'sum', in the pinned program and in every row, IS THE sha256 OF THE DUMP (.gsa) THAT YbulkcauuProg.lean LOADS. Nothing in Lean hashes anything: it is a label: what it is worth is what the hold of that sum in a sandbox is worth. -/
noncomputable def Yba.pinned : Pinned := { name := "ybulkcauu", sum := "bbc7eed1c6442b71c2aa0d85b387788ab1136bd733cc9b7c70e61a694ffcdbd4", checked := Yba.checked }
namespace Rows
def none {H : Type} : Left H := { results := [], args := [] }

/-- 'lozenge.LawS3855AExact': WHATEVER THE INPUT: true; the input reads as it did. -/
def lawS3855AExactSpec : ChangeSpec := { name := "lawS3855AExact", fn := fun _ => fun
  | [d] => { results := [.lit (.bool true)], args := [d] }
  | _ => none }
def lawS3855AExactRow : OpenClaim := { program := "ybulkcauu", sum := "bbc7eed1c6442b71c2aa0d85b387788ab1136bd733cc9b7c70e61a694ffcdbd4", func := "example.com/lozenge/lozenge.LawS3855AExact", spec := "lawS3855AExact", apart := false }
def LawS3855AExactSaid : Prop := lawS3855AExactRow.holds Yba.pinned (OpenSpec.ofChange lawS3855AExactSpec)

/-- ITS FALSE NEIGHBOUR: 'it returns false'. Refute it at one input. -/
def lawS3855AExactWrong : ChangeSpec := { name := "lawS3855AExact", fn := fun _ => fun
  | [d] => { results := [.lit (.bool false)], args := [d] }
  | _ => none }
def LawS3855AExactWrongFalsely : Prop := lawS3855AExactRow.holds Yba.pinned (OpenSpec.ofChange lawS3855AExactWrong)

/-- 'lozenge.LawS3855AEdges': WHATEVER THE INPUT: true; the input reads as it did. -/
def lawS3855AEdgesSpec : ChangeSpec := { name := "lawS3855AEdges", fn := fun _ => fun
  | [d] => { results := [.lit (.bool true)], args := [d] }
  | _ => none }
def lawS3855AEdgesRow : OpenClaim := { program := "ybulkcauu", sum := "bbc7eed1c6442b71c2aa0d85b387788ab1136bd733cc9b7c70e61a694ffcdbd4", func := "example.com/lozenge/lozenge.LawS3855AEdges", spec := "lawS3855AEdges", apart := false }
def LawS3855AEdgesSaid : Prop := lawS3855AEdgesRow.holds Yba.pinned (OpenSpec.ofChange lawS3855AEdgesSpec)

/-- ITS FALSE NEIGHBOUR: 'it returns false'. Refute it at one input. -/
def lawS3855AEdgesWrong : ChangeSpec := { name := "lawS3855AEdges", fn := fun _ => fun
  | [d] => { results := [.lit (.bool false)], args := [d] }
  | _ => none }
def LawS3855AEdgesWrongFalsely : Prop := lawS3855AEdgesRow.holds Yba.pinned (OpenSpec.ofChange lawS3855AEdgesWrong)

/-- 'lozenge.LawS3855CNewEst': WHATEVER THE INPUT: true; the input reads as it did. -/
def lawS3855CNewEstSpec : ChangeSpec := { name := "lawS3855CNewEst", fn := fun _ => fun
  | [d1, d2, d3, d4, d5, d6, d7] => { results := [.lit (.bool true)], args := [d1, d2, d3, d4, d5, d6, d7] }
  | _ => none }
def lawS3855CNewEstRow : OpenClaim := { program := "ybulkcauu", sum := "bbc7eed1c6442b71c2aa0d85b387788ab1136bd733cc9b7c70e61a694ffcdbd4", func := "example.com/lozenge/lozenge.LawS3855CNewEst", spec := "lawS3855CNewEst", unfollowed := true, recurses := true, apart := false }
def LawS3855CNewEstSaid : Prop := lawS3855CNewEstRow.holds Yba.pinned (OpenSpec.ofChange lawS3855CNewEstSpec)

/-- ITS FALSE NEIGHBOUR: 'it returns false'. Refute it at one input. -/
def lawS3855CNewEstWrong : ChangeSpec := { name := "lawS3855CNewEst", fn := fun _ => fun
  | [d1, d2, d3, d4, d5, d6, d7] => { results := [.lit (.bool false)], args := [d1, d2, d3, d4, d5, d6, d7] }
  | _ => none }
def LawS3855CNewEstWrongFalsely : Prop := lawS3855CNewEstRow.holds Yba.pinned (OpenSpec.ofChange lawS3855CNewEstWrong)

/-- 'lozenge.LawS3855CFirst': WHATEVER THE INPUT: true; the input reads as it did. -/
def lawS3855CFirstSpec : ChangeSpec := { name := "lawS3855CFirst", fn := fun _ => fun
  | [d1, d2, d3, d4, d5, d6] => { results := [.lit (.bool true)], args := [d1, d2, d3, d4, d5, d6] }
  | _ => none }
def lawS3855CFirstRow : OpenClaim := { program := "ybulkcauu", sum := "bbc7eed1c6442b71c2aa0d85b387788ab1136bd733cc9b7c70e61a694ffcdbd4", func := "example.com/lozenge/lozenge.LawS3855CFirst", spec := "lawS3855CFirst", unfollowed := true, recurses := true, apart := false }
def LawS3855CFirstSaid : Prop := lawS3855CFirstRow.holds Yba.pinned (OpenSpec.ofChange lawS3855CFirstSpec)

/-- ITS FALSE NEIGHBOUR: 'it returns false'. Refute it at one input. -/
def lawS3855CFirstWrong : ChangeSpec := { name := "lawS3855CFirst", fn := fun _ => fun
  | [d1, d2, d3, d4, d5, d6] => { results := [.lit (.bool false)], args := [d1, d2, d3, d4, d5, d6] }
  | _ => none }
def LawS3855CFirstWrongFalsely : Prop := lawS3855CFirstRow.holds Yba.pinned (OpenSpec.ofChange lawS3855CFirstWrong)

end Rows
end Go.Proofs.Ybulkcauu
