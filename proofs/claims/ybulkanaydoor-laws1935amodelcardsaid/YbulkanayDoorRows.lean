/-
  NARROWER THAN 'FOR EVERY INPUT', by the rows' own cells (each row's printed sentence says how): LawS1935AModel: laid · LawS1935AHighBits: laid.
  DERIVED. THE GIVEN ROWS OF THIS SEAT. 2 by the template 'for every input the law returns true; each argument reads behind the call as it read before'; 0 by the template 'total and deterministic' (their statements: YbulkanayDoorTotals.lean).
  GIVEN WITH THE SEED: the statements are not yours to turn. If you find one false, say at which input.
  Laid BY PROGRAM, IN A SANDBOX (cutbox-rows.mjs): the forced cells as the released guide's own fill.sh prints them over the translation 8e85a2ed2653cc74… (all of the seat's roots in one cut). By AI agents, Wed Nov 11 2026. No macro, syntax, notation, axiom, sorry.
-/
import Derived.Test.YbulkanayDoorChecked
import GoSem.Claim
import GoSem.ClaimJoined
import GoSem.ClaimMapViews
import Derived.JoinedTies
import Derived.KernelRfl
namespace Go.Proofs.YbulkanayDoor
/- THE CELL 'sum', in the pinned program and in every row, IS THE sha256 OF THE DUMP (.gsa) THAT YbulkanayDoorProg.lean LOADS. Nothing in Lean hashes anything: it is a label: what it is worth is what the hold of that sum in a sandbox is worth. -/
noncomputable def Ybad.pinned : Pinned := { name := "ybulkanaydoor", sum := "8e85a2ed2653cc7493632213b0396a48d473eaaab01971e17e0a3d97353f1fd8", checked := Ybad.checked }
namespace Rows
def none {H : Type} : Left H := { results := [], args := [] }

/- WHAT THE LISTED PACKAGE-LEVEL VARIABLES READ AS WHEN THE CALL BEGINS. Each datum BY PROGRAM (the guide's laid-datum.mjs) off the statement by which the dump's own 'gosem.cut.vars' lays the variable. In a bare row this is a premise. The card (YbulkanayDoorCards.lean) ties it to the program's text. -/
def laid_qipai_example_qipai_mahjong_suitStart {H : Type} : DataW H := .agg [.lit (.int .u8 0), .lit (.int .u8 9), .lit (.int .u8 18), .lit (.int .u8 27), .lit (.int .u8 34)]

/-- 'mahjong.LawS1935AModel': WHATEVER THE INPUT: true; the input reads as it did. -/
def lawS1935AModelSpec : ChangeSpec := { name := "lawS1935AModel", vars := ["qipai.example/qipai/mahjong.suitStart"], fn := fun _ => fun
  | [d1, d2, g1] => { results := [.lit (.bool true)], args := [d1, d2], vars := [g1] }
  | _ => none }
def lawS1935AModelRow : OpenClaim := { program := "ybulkanaydoor", sum := "8e85a2ed2653cc7493632213b0396a48d473eaaab01971e17e0a3d97353f1fd8", func := "qipai.example/qipai/mahjong.LawS1935AModel", spec := "lawS1935AModel", named := ["qipai.example/qipai/mahjong.suitStart"], apart := false, laid := [("qipai.example/qipai/mahjong.suitStart", laid_qipai_example_qipai_mahjong_suitStart)] }
def LawS1935AModelSaid : Prop := lawS1935AModelRow.holds Ybad.pinned (OpenSpec.ofChange lawS1935AModelSpec)

/-- ITS FALSE NEIGHBOUR: 'it returns false'. Refute it at one input. -/
def lawS1935AModelWrong : ChangeSpec := { name := "lawS1935AModel", vars := ["qipai.example/qipai/mahjong.suitStart"], fn := fun _ => fun
  | [d1, d2, g1] => { results := [.lit (.bool false)], args := [d1, d2], vars := [g1] }
  | _ => none }
def LawS1935AModelWrongFalsely : Prop := lawS1935AModelRow.holds Ybad.pinned (OpenSpec.ofChange lawS1935AModelWrong)

/-- 'mahjong.LawS1935AHighBits': WHATEVER THE INPUT: true; the input reads as it did. -/
def lawS1935AHighBitsSpec : ChangeSpec := { name := "lawS1935AHighBits", vars := ["qipai.example/qipai/mahjong.suitStart"], fn := fun _ => fun
  | [d1, d2, g1] => { results := [.lit (.bool true)], args := [d1, d2], vars := [g1] }
  | _ => none }
def lawS1935AHighBitsRow : OpenClaim := { program := "ybulkanaydoor", sum := "8e85a2ed2653cc7493632213b0396a48d473eaaab01971e17e0a3d97353f1fd8", func := "qipai.example/qipai/mahjong.LawS1935AHighBits", spec := "lawS1935AHighBits", named := ["qipai.example/qipai/mahjong.suitStart"], apart := false, laid := [("qipai.example/qipai/mahjong.suitStart", laid_qipai_example_qipai_mahjong_suitStart)] }
def LawS1935AHighBitsSaid : Prop := lawS1935AHighBitsRow.holds Ybad.pinned (OpenSpec.ofChange lawS1935AHighBitsSpec)

/-- ITS FALSE NEIGHBOUR: 'it returns false'. Refute it at one input. -/
def lawS1935AHighBitsWrong : ChangeSpec := { name := "lawS1935AHighBits", vars := ["qipai.example/qipai/mahjong.suitStart"], fn := fun _ => fun
  | [d1, d2, g1] => { results := [.lit (.bool false)], args := [d1, d2], vars := [g1] }
  | _ => none }
def LawS1935AHighBitsWrongFalsely : Prop := lawS1935AHighBitsRow.holds Ybad.pinned (OpenSpec.ofChange lawS1935AHighBitsWrong)

end Rows
end Go.Proofs.YbulkanayDoor
