/-
  No cell of these rows narrows 'for every input' (looked for: loops, veiled, ifaces, maps, wideKeys, modest, calm, conditions, laid).
  DERIVED. THE GIVEN ROWS OF THIS SEAT. 5 by the template 'for every input the law returns true; each argument reads behind the call as it read before'; 0 by the template 'total and deterministic' (their statements: YbulkcawyTotals.lean).
  GIVEN WITH THE SEED: the statements are not yours to turn. If you find one false, say at which input.
  Laid BY PROGRAM, IN A SANDBOX (cutbox-rows.mjs): the forced cells as the released guide's own fill.sh prints them over the translation 02a480add3aac304… (all of the seat's roots in one cut). By AI agents, Wed Nov 11 2026. No macro, syntax, notation, axiom, sorry.
-/
import Derived.Test.YbulkcawyChecked
import GoSem.Claim
import GoSem.ClaimJoined
import GoSem.ClaimMapViews
import Derived.JoinedTies
import Derived.KernelRfl
namespace Go.Proofs.Ybulkcawy
/- THE CELL 'sum', in the pinned program and in every row, IS THE sha256 OF THE DUMP (.gsa) THAT YbulkcawyProg.lean LOADS. Nothing in Lean hashes anything: it is a label: what it is worth is what the hold of that sum in a sandbox is worth. -/
noncomputable def Yba.pinned : Pinned := { name := "ybulkcawy", sum := "02a480add3aac304755aa7356ca5d2e95f8407823622206214206608cbc00269", checked := Yba.checked }
namespace Rows
def none {H : Type} : Left H := { results := [], args := [] }

/-- 'roundcore.LawS3859APlay': WHATEVER THE INPUT: true; the input reads as it did. -/
def lawS3859APlaySpec : ChangeSpec := { name := "lawS3859APlay", fn := fun _ => fun
  | [d1, d2, d3, d4, d5, d6, d7, d8, d9, d10, d11] => { results := [.lit (.bool true)], args := [d1, d2, d3, d4, d5, d6, d7, d8, d9, d10, d11] }
  | _ => none }
def lawS3859APlayRow : OpenClaim := { program := "ybulkcawy", sum := "02a480add3aac304755aa7356ca5d2e95f8407823622206214206608cbc00269", func := "example.com/roundcore/roundcore.LawS3859APlay", spec := "lawS3859APlay", unfollowed := true, recurses := true, apart := false }
def LawS3859APlaySaid : Prop := lawS3859APlayRow.holds Yba.pinned (OpenSpec.ofChange lawS3859APlaySpec)

/-- ITS FALSE NEIGHBOUR: 'it returns false'. Refute it at one input. -/
def lawS3859APlayWrong : ChangeSpec := { name := "lawS3859APlay", fn := fun _ => fun
  | [d1, d2, d3, d4, d5, d6, d7, d8, d9, d10, d11] => { results := [.lit (.bool false)], args := [d1, d2, d3, d4, d5, d6, d7, d8, d9, d10, d11] }
  | _ => none }
def LawS3859APlayWrongFalsely : Prop := lawS3859APlayRow.holds Yba.pinned (OpenSpec.ofChange lawS3859APlayWrong)

/-- 'roundcore.LawS3859BApplies': WHATEVER THE INPUT: true; the input reads as it did. -/
def lawS3859BAppliesSpec : ChangeSpec := { name := "lawS3859BApplies", fn := fun _ => fun
  | [d1, d2, d3, d4, d5] => { results := [.lit (.bool true)], args := [d1, d2, d3, d4, d5] }
  | _ => none }
def lawS3859BAppliesRow : OpenClaim := { program := "ybulkcawy", sum := "02a480add3aac304755aa7356ca5d2e95f8407823622206214206608cbc00269", func := "example.com/roundcore/roundcore.LawS3859BApplies", spec := "lawS3859BApplies", unfollowed := true, recurses := true, apart := false }
def LawS3859BAppliesSaid : Prop := lawS3859BAppliesRow.holds Yba.pinned (OpenSpec.ofChange lawS3859BAppliesSpec)

/-- ITS FALSE NEIGHBOUR: 'it returns false'. Refute it at one input. -/
def lawS3859BAppliesWrong : ChangeSpec := { name := "lawS3859BApplies", fn := fun _ => fun
  | [d1, d2, d3, d4, d5] => { results := [.lit (.bool false)], args := [d1, d2, d3, d4, d5] }
  | _ => none }
def LawS3859BAppliesWrongFalsely : Prop := lawS3859BAppliesRow.holds Yba.pinned (OpenSpec.ofChange lawS3859BAppliesWrong)

/-- 'roundcore.LawS3859BSequence': WHATEVER THE INPUT: true; the input reads as it did. -/
def lawS3859BSequenceSpec : ChangeSpec := { name := "lawS3859BSequence", fn := fun _ => fun
  | [d1, d2] => { results := [.lit (.bool true)], args := [d1, d2] }
  | _ => none }
def lawS3859BSequenceRow : OpenClaim := { program := "ybulkcawy", sum := "02a480add3aac304755aa7356ca5d2e95f8407823622206214206608cbc00269", func := "example.com/roundcore/roundcore.LawS3859BSequence", spec := "lawS3859BSequence", unfollowed := true, recurses := true, apart := false }
def LawS3859BSequenceSaid : Prop := lawS3859BSequenceRow.holds Yba.pinned (OpenSpec.ofChange lawS3859BSequenceSpec)

/-- ITS FALSE NEIGHBOUR: 'it returns false'. Refute it at one input. -/
def lawS3859BSequenceWrong : ChangeSpec := { name := "lawS3859BSequence", fn := fun _ => fun
  | [d1, d2] => { results := [.lit (.bool false)], args := [d1, d2] }
  | _ => none }
def LawS3859BSequenceWrongFalsely : Prop := lawS3859BSequenceRow.holds Yba.pinned (OpenSpec.ofChange lawS3859BSequenceWrong)

/-- 'roundcore.LawS3859CReset': WHATEVER THE INPUT: true; the input reads as it did. -/
def lawS3859CResetSpec : ChangeSpec := { name := "lawS3859CReset", fn := fun _ => fun
  | [d1, d2, d3, d4, d5] => { results := [.lit (.bool true)], args := [d1, d2, d3, d4, d5] }
  | _ => none }
def lawS3859CResetRow : OpenClaim := { program := "ybulkcawy", sum := "02a480add3aac304755aa7356ca5d2e95f8407823622206214206608cbc00269", func := "example.com/roundcore/roundcore.LawS3859CReset", spec := "lawS3859CReset", apart := false }
def LawS3859CResetSaid : Prop := lawS3859CResetRow.holds Yba.pinned (OpenSpec.ofChange lawS3859CResetSpec)

/-- ITS FALSE NEIGHBOUR: 'it returns false'. Refute it at one input. -/
def lawS3859CResetWrong : ChangeSpec := { name := "lawS3859CReset", fn := fun _ => fun
  | [d1, d2, d3, d4, d5] => { results := [.lit (.bool false)], args := [d1, d2, d3, d4, d5] }
  | _ => none }
def LawS3859CResetWrongFalsely : Prop := lawS3859CResetRow.holds Yba.pinned (OpenSpec.ofChange lawS3859CResetWrong)

/-- 'roundcore.LawS3859CEmpty': WHATEVER THE INPUT: true; the input reads as it did. -/
def lawS3859CEmptySpec : ChangeSpec := { name := "lawS3859CEmpty", fn := fun _ => fun
  | [d1, d2, d3] => { results := [.lit (.bool true)], args := [d1, d2, d3] }
  | _ => none }
def lawS3859CEmptyRow : OpenClaim := { program := "ybulkcawy", sum := "02a480add3aac304755aa7356ca5d2e95f8407823622206214206608cbc00269", func := "example.com/roundcore/roundcore.LawS3859CEmpty", spec := "lawS3859CEmpty", apart := false }
def LawS3859CEmptySaid : Prop := lawS3859CEmptyRow.holds Yba.pinned (OpenSpec.ofChange lawS3859CEmptySpec)

/-- ITS FALSE NEIGHBOUR: 'it returns false'. Refute it at one input. -/
def lawS3859CEmptyWrong : ChangeSpec := { name := "lawS3859CEmpty", fn := fun _ => fun
  | [d1, d2, d3] => { results := [.lit (.bool false)], args := [d1, d2, d3] }
  | _ => none }
def LawS3859CEmptyWrongFalsely : Prop := lawS3859CEmptyRow.holds Yba.pinned (OpenSpec.ofChange lawS3859CEmptyWrong)

end Rows
end Go.Proofs.Ybulkcawy
