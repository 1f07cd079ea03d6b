/-
  No cell of these rows narrows 'for every input' (looked for: loops, veiled, ifaces, maps, wideKeys, modest, calm, conditions, laid).
  DERIVED. THE GIVEN ROWS OF THIS SEAT. 3 by the template 'for every input the law returns true; each argument reads behind the call as it read before'; 0 by the template 'total and deterministic' (their statements: YbulkancoTotals.lean).
  GIVEN WITH THE SEED: the statements are not yours to turn. If you find one false, say at which input.
  Laid BY PROGRAM, IN A SANDBOX (cutbox-rows.mjs): the forced cells as the released guide's own fill.sh prints them over the translation fca3c68f4a449dc0… (all of the seat's roots in one cut). By AI agents, Wed Nov 11 2026. No macro, syntax, notation, axiom, sorry.
-/
import Derived.Test.YbulkancoChecked
import GoSem.Claim
import GoSem.ClaimJoined
import GoSem.ClaimMapViews
import Derived.JoinedTies
import Derived.KernelRfl
namespace Go.Proofs.Ybulkanco
/- THE CELL 'sum', in the pinned program and in every row, IS THE sha256 OF THE DUMP (.gsa) THAT YbulkancoProg.lean LOADS. Nothing in Lean hashes anything: it is a label: what it is worth is what the hold of that sum in a sandbox is worth. -/
noncomputable def Yba.pinned : Pinned := { name := "ybulkanco", sum := "fca3c68f4a449dc04e1ba0c0da554593f93b0658808d91d09ffe1377533b947a", checked := Yba.checked }
namespace Rows
def none {H : Type} : Left H := { results := [], args := [] }

/-- 'notify.LawS1938AExact': WHATEVER THE INPUT: true; the input reads as it did. -/
def lawS1938AExactSpec : ChangeSpec := { name := "lawS1938AExact", fn := fun _ => fun
  | [d1, d2, d3, d4] => { results := [.lit (.bool true)], args := [d1, d2, d3, d4] }
  | _ => none }
def lawS1938AExactRow : OpenClaim := { program := "ybulkanco", sum := "fca3c68f4a449dc04e1ba0c0da554593f93b0658808d91d09ffe1377533b947a", func := "example.com/crosslane/crosslane/notify.LawS1938AExact", spec := "lawS1938AExact", named := ["encoding/binary.BigEndian"], apart := false }
def LawS1938AExactSaid : Prop := lawS1938AExactRow.holds Yba.pinned (OpenSpec.ofChange lawS1938AExactSpec)

/-- ITS FALSE NEIGHBOUR: 'it returns false'. Refute it at one input. -/
def lawS1938AExactWrong : ChangeSpec := { name := "lawS1938AExact", fn := fun _ => fun
  | [d1, d2, d3, d4] => { results := [.lit (.bool false)], args := [d1, d2, d3, d4] }
  | _ => none }
def LawS1938AExactWrongFalsely : Prop := lawS1938AExactRow.holds Yba.pinned (OpenSpec.ofChange lawS1938AExactWrong)

/-- 'session.LawS1938BOne': WHATEVER THE INPUT: true; the input reads as it did. -/
def lawS1938BOneSpec : ChangeSpec := { name := "lawS1938BOne", fn := fun _ => fun
  | [d] => { results := [.lit (.bool true)], args := [d] }
  | _ => none }
def lawS1938BOneRow : OpenClaim := { program := "ybulkanco", sum := "fca3c68f4a449dc04e1ba0c0da554593f93b0658808d91d09ffe1377533b947a", func := "example.com/crosslane/crosslane/session.LawS1938BOne", spec := "lawS1938BOne", apart := false }
def LawS1938BOneSaid : Prop := lawS1938BOneRow.holds Yba.pinned (OpenSpec.ofChange lawS1938BOneSpec)

/-- ITS FALSE NEIGHBOUR: 'it returns false'. Refute it at one input. -/
def lawS1938BOneWrong : ChangeSpec := { name := "lawS1938BOne", fn := fun _ => fun
  | [d] => { results := [.lit (.bool false)], args := [d] }
  | _ => none }
def LawS1938BOneWrongFalsely : Prop := lawS1938BOneRow.holds Yba.pinned (OpenSpec.ofChange lawS1938BOneWrong)

/-- 'session.LawS1938BMember': WHATEVER THE INPUT: true; the input reads as it did. -/
def lawS1938BMemberSpec : ChangeSpec := { name := "lawS1938BMember", fn := fun _ => fun
  | [d1, d2] => { results := [.lit (.bool true)], args := [d1, d2] }
  | _ => none }
def lawS1938BMemberRow : OpenClaim := { program := "ybulkanco", sum := "fca3c68f4a449dc04e1ba0c0da554593f93b0658808d91d09ffe1377533b947a", func := "example.com/crosslane/crosslane/session.LawS1938BMember", spec := "lawS1938BMember", apart := false }
def LawS1938BMemberSaid : Prop := lawS1938BMemberRow.holds Yba.pinned (OpenSpec.ofChange lawS1938BMemberSpec)

/-- ITS FALSE NEIGHBOUR: 'it returns false'. Refute it at one input. -/
def lawS1938BMemberWrong : ChangeSpec := { name := "lawS1938BMember", fn := fun _ => fun
  | [d1, d2] => { results := [.lit (.bool false)], args := [d1, d2] }
  | _ => none }
def LawS1938BMemberWrongFalsely : Prop := lawS1938BMemberRow.holds Yba.pinned (OpenSpec.ofChange lawS1938BMemberWrong)

end Rows
end Go.Proofs.Ybulkanco
