/-
  NARROWER THAN 'FOR EVERY INPUT', by the rows' own cells (each row's printed sentence says how): LawS1938CSpec: maps, laid.
  DERIVED. THE GIVEN ROWS OF THIS SEAT. 1 by the template 'for every input the law returns true; each argument reads behind the call as it read before'; 0 by the template 'total and deterministic' (their statements: YbulkancoFmtTotals.lean).
  GIVEN WITH THE SEED: the statements are not yours to turn. If you find one false, say at which input.
  Laid BY PROGRAM, IN A SANDBOX (cutbox-rows.mjs): the forced cells as the released guide's own fill.sh prints them over the translation b934e5c6e063a5a2… (all of the seat's roots in one cut). By AI agents, Wed Nov 11 2026. No macro, syntax, notation, axiom, sorry.
-/
import Derived.Test.YbulkancoFmtChecked
import GoSem.Claim
import GoSem.ClaimJoined
import GoSem.ClaimMapViews
import Derived.JoinedTies
import Derived.KernelRfl
namespace Go.Proofs.YbulkancoFmt
/- THE CELL 'sum', in the pinned program and in every row, IS THE sha256 OF THE DUMP (.gsa) THAT YbulkancoFmtProg.lean LOADS. Nothing in Lean hashes anything: it is a label: what it is worth is what the hold of that sum in a sandbox is worth. -/
noncomputable def Ybaf.pinned : Pinned := { name := "ybulkancofmt", sum := "b934e5c6e063a5a2e8863905b7cc380077bfdd0b9ab1d0f73da8301aa33dcf0d", checked := Ybaf.checked }
namespace Rows
def none {H : Type} : Left H := { results := [], args := [] }

/- WHAT THE LISTED PACKAGE-LEVEL VARIABLES READ AS WHEN THE CALL BEGINS. Each datum BY PROGRAM (the guide's laid-datum.mjs) off the statement by which the dump's own 'gosem.cut.vars' lays the variable. In a bare row this is a premise. The card (YbulkancoFmtCards.lean) ties it to the program's text. -/
def laid_example_com_crosslane_crosslane_eap_attributeNames {H : Type} : DataW H := .map [(.int .u8 1, .lit (.string [65, 84, 95, 82, 65, 78, 68])), (.int .u8 2, .lit (.string [65, 84, 95, 65, 85, 84, 78])), (.int .u8 3, .lit (.string [65, 84, 95, 82, 69, 83])), (.int .u8 4, .lit (.string [65, 84, 95, 65, 85, 84, 83])), (.int .u8 6, .lit (.string [65, 84, 95, 80, 65, 68, 68, 73, 78, 71])), (.int .u8 7, .lit (.string [65, 84, 95, 78, 79, 78, 67, 69, 95, 77, 84])), (.int .u8 10, .lit (.string [65, 84, 95, 80, 69, 82, 77, 65, 78, 69, 78, 84, 95, 73, 68, 95, 82, 69, 81])), (.int .u8 11, .lit (.string [65, 84, 95, 77, 65, 67])), (.int .u8 12, .lit (.string [65, 84, 95, 78, 79, 84, 73, 70, 73, 67, 65, 84, 73, 79, 78])), (.int .u8 13, .lit (.string [65, 84, 95, 65, 78, 89, 95, 73, 68, 95, 82, 69, 81])), (.int .u8 14, .lit (.string [65, 84, 95, 73, 68, 69, 78, 84, 73, 84, 89])), (.int .u8 15, .lit (.string [65, 84, 95, 86, 69, 82, 83, 73, 79, 78, 95, 76, 73, 83, 84])), (.int .u8 16, .lit (.string [65, 84, 95, 83, 69, 76, 69, 67, 84, 69, 68, 95, 86, 69, 82, 83, 73, 79, 78])), (.int .u8 17, .lit (.string [65, 84, 95, 70, 85, 76, 76, 65, 85, 84, 72, 95, 73, 68, 95, 82, 69, 81])), (.int .u8 19, .lit (.string [65, 84, 95, 67, 79, 85, 78, 84, 69, 82])), (.int .u8 20, .lit (.string [65, 84, 95, 67, 79, 85, 78, 84, 69, 82, 95, 84, 79, 79, 95, 83, 77, 65, 76, 76])), (.int .u8 21, .lit (.string [65, 84, 95, 78, 79, 78, 67, 69, 95, 83])), (.int .u8 22, .lit (.string [65, 84, 95, 67, 76, 73, 69, 78, 84, 95, 69, 82, 82, 79, 82, 95, 67, 79, 68, 69])), (.int .u8 23, .lit (.string [65, 84, 95, 75, 68, 70, 95, 73, 78, 80, 85, 84])), (.int .u8 24, .lit (.string [65, 84, 95, 75, 68, 70])), (.int .u8 129, .lit (.string [65, 84, 95, 73, 86])), (.int .u8 130, .lit (.string [65, 84, 95, 69, 78, 67, 82, 95, 68, 65, 84, 65])), (.int .u8 132, .lit (.string [65, 84, 95, 78, 69, 88, 84, 95, 80, 83, 69, 85, 68, 79, 78, 89, 77])), (.int .u8 133, .lit (.string [65, 84, 95, 78, 69, 88, 84, 95, 82, 69, 65, 85, 84, 72, 95, 73, 68])), (.int .u8 134, .lit (.string [65, 84, 95, 67, 72, 69, 67, 75, 67, 79, 68, 69])), (.int .u8 135, .lit (.string [65, 84, 95, 82, 69, 83, 85, 76, 84, 95, 73, 78, 68])), (.int .u8 136, .lit (.string [65, 84, 95, 66, 73, 68, 68, 73, 78, 71])), (.int .u8 137, .lit (.string [65, 84, 95, 73, 80, 77, 83, 95, 73, 78, 68])), (.int .u8 138, .lit (.string [65, 84, 95, 73, 80, 77, 83, 95, 82, 69, 83])), (.int .u8 139, .lit (.string [65, 84, 95, 84, 82, 85, 83, 84, 95, 73, 78, 68])), (.int .u8 140, .lit (.string [65, 84, 95, 83, 72, 79, 82, 84, 95, 78, 65, 77, 69, 95, 70, 79, 82, 95, 78, 69, 84, 87, 79, 82, 75])), (.int .u8 141, .lit (.string [65, 84, 95, 70, 85, 76, 76, 95, 78, 65, 77, 69, 95, 70, 79, 82, 95, 78, 69, 84, 87, 79, 82, 75])), (.int .u8 144, .lit (.string [65, 84, 95, 84, 87, 65, 78, 95, 67, 79, 78, 78, 95, 77, 79, 68, 69])), (.int .u8 151, .lit (.string [65, 84, 95, 68, 69, 86, 73, 67, 69, 95, 73, 68, 69, 78, 84, 73, 84, 89]))]

/-- 'eap.LawS1938CSpec': WHATEVER THE INPUT: true; the input reads as it did. -/
def lawS1938CSpecSpec : ChangeSpec := { name := "lawS1938CSpec", vars := ["example.com/crosslane/crosslane/eap.attributeNames"], fn := fun _ => fun
  | [d1, d2, g1] => { results := [.lit (.bool true)], args := [d1, d2], vars := [g1] }
  | _ => none }
def lawS1938CSpecRow : OpenClaim := { program := "ybulkancofmt", sum := "b934e5c6e063a5a2e8863905b7cc380077bfdd0b9ab1d0f73da8301aa33dcf0d", func := "example.com/crosslane/crosslane/eap.LawS1938CSpec", spec := "lawS1938CSpec", stops := ["fmt.Sprintf, its operands' methods called"], inPlace := ["fmt.Sprintf"], unfollowed := true, recurses := true, named := ["example.com/crosslane/crosslane/eap.attributeNames"], maps := true, apart := false, laid := [("example.com/crosslane/crosslane/eap.attributeNames", laid_example_com_crosslane_crosslane_eap_attributeNames)] }
/-- NO THEOREM (fmt's text is open here; it may be false): for the released tool's asking of the row's closed facts alone. THE STATEMENT IS 'LawS1938CSpecToldSaid' (YbulkancoFmtCards.lean). -/
def LawS1938CSpecFormAsk : Prop := lawS1938CSpecRow.holds Ybaf.pinned (OpenSpec.ofChange lawS1938CSpecSpec)

/-- ITS FALSE NEIGHBOUR: 'it returns false'. Refute it at one input. -/
def lawS1938CSpecWrong : ChangeSpec := { name := "lawS1938CSpec", vars := ["example.com/crosslane/crosslane/eap.attributeNames"], fn := fun _ => fun
  | [d1, d2, g1] => { results := [.lit (.bool false)], args := [d1, d2], vars := [g1] }
  | _ => none }
def LawS1938CSpecWrongFormAsk : Prop := lawS1938CSpecRow.holds Ybaf.pinned (OpenSpec.ofChange lawS1938CSpecWrong)

end Rows
end Go.Proofs.YbulkancoFmt
