/-
  No cell of these rows narrows 'for every input' (looked for: loops, veiled, ifaces, maps, wideKeys, modest, calm, conditions, laid).
  DERIVED. THE GIVEN ROWS OF THIS SEAT. 2 by the template 'for every input the law returns true; each argument reads behind the call as it read before'; 0 by the template 'total and deterministic' (their statements: YbulkanfuTotals.lean).
  GIVEN WITH THE SEED: the statements are not yours to turn. If you find one false, say at which input.
  Laid BY PROGRAM, IN A SANDBOX (cutbox-rows.mjs): the forced cells as the released guide's own fill.sh prints them over the translation d0eae83bd2b763ea… (all of the seat's roots in one cut). By AI agents, Wed Nov 11 2026. No macro, syntax, notation, axiom, sorry.
-/
import Derived.Test.YbulkanfuChecked
import GoSem.Claim
import GoSem.ClaimJoined
import GoSem.ClaimMapViews
import Derived.JoinedTies
import Derived.KernelRfl
namespace Go.Proofs.Ybulkanfu
/- THE CELL 'sum', in the pinned program and in every row, IS THE sha256 OF THE DUMP (.gsa) THAT YbulkanfuProg.lean LOADS. Nothing in Lean hashes anything: it is a label: what it is worth is what the hold of that sum in a sandbox is worth. -/
noncomputable def Yba.pinned : Pinned := { name := "ybulkanfu", sum := "d0eae83bd2b763ea98d6205e325b27530fea71fdad51c94256ca42e47bb1f47a", checked := Yba.checked }
namespace Rows
def none {H : Type} : Left H := { results := [], args := [] }

/-- 'humble-parens.LawS1944BGrowTold': WHATEVER THE INPUT: true; the input reads as it did. -/
def lawS1944BGrowToldSpec : ChangeSpec := { name := "lawS1944BGrowTold", fn := fun _ => fun
  | [d1, d2, d3] => { results := [.lit (.bool true)], args := [d1, d2, d3] }
  | _ => none }
def lawS1944BGrowToldRow : OpenClaim := { program := "ybulkanfu", sum := "d0eae83bd2b763ea98d6205e325b27530fea71fdad51c94256ca42e47bb1f47a", func := "example.com/humble-parens/humble-parens.LawS1944BGrowTold", spec := "lawS1944BGrowTold", unfollowed := true, recurses := true, apart := false }
def LawS1944BGrowToldSaid : Prop := lawS1944BGrowToldRow.holds Yba.pinned (OpenSpec.ofChange lawS1944BGrowToldSpec)

/-- ITS FALSE NEIGHBOUR: 'it returns false'. Refute it at one input. -/
def lawS1944BGrowToldWrong : ChangeSpec := { name := "lawS1944BGrowTold", fn := fun _ => fun
  | [d1, d2, d3] => { results := [.lit (.bool false)], args := [d1, d2, d3] }
  | _ => none }
def LawS1944BGrowToldWrongFalsely : Prop := lawS1944BGrowToldRow.holds Yba.pinned (OpenSpec.ofChange lawS1944BGrowToldWrong)

/-- 'humble-parens.LawS1944BNoGrowNoCall': WHATEVER THE INPUT: true; the input reads as it did. -/
def lawS1944BNoGrowNoCallSpec : ChangeSpec := { name := "lawS1944BNoGrowNoCall", fn := fun _ => fun
  | [d1, d2, d3, d4] => { results := [.lit (.bool true)], args := [d1, d2, d3, d4] }
  | _ => none }
def lawS1944BNoGrowNoCallRow : OpenClaim := { program := "ybulkanfu", sum := "d0eae83bd2b763ea98d6205e325b27530fea71fdad51c94256ca42e47bb1f47a", func := "example.com/humble-parens/humble-parens.LawS1944BNoGrowNoCall", spec := "lawS1944BNoGrowNoCall", unfollowed := true, recurses := true, apart := false }
def LawS1944BNoGrowNoCallSaid : Prop := lawS1944BNoGrowNoCallRow.holds Yba.pinned (OpenSpec.ofChange lawS1944BNoGrowNoCallSpec)

/-- ITS FALSE NEIGHBOUR: 'it returns false'. Refute it at one input. -/
def lawS1944BNoGrowNoCallWrong : ChangeSpec := { name := "lawS1944BNoGrowNoCall", fn := fun _ => fun
  | [d1, d2, d3, d4] => { results := [.lit (.bool false)], args := [d1, d2, d3, d4] }
  | _ => none }
def LawS1944BNoGrowNoCallWrongFalsely : Prop := lawS1944BNoGrowNoCallRow.holds Yba.pinned (OpenSpec.ofChange lawS1944BNoGrowNoCallWrong)

end Rows
end Go.Proofs.Ybulkanfu
