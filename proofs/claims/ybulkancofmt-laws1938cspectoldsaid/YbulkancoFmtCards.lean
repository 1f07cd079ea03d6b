/-
  DERIVED. GIVEN WITH THE SEED: THE CARDS: each row of YbulkancoFmtRows.lean that lists a variable, with what it lists TIED to the program's text (the seventh form; the later family's looks); each row that meets fmt, with fmt's text TOLD by the authors' own Lean function (tested against real Go, not proved from fmt's source: count such statements apart). THE CARD IS WHAT COUNTS. Prove the row's statement (the work); the ties are given (YbulkancoFmtTie.lean); close each card by the builder's one call (the guide's Derived/Test/ToyasCard.lean, 'card_holds'). Laid BY PROGRAM, IN A SANDBOX (cutbox-door.mjs). By AI agents, Wed Nov 11 2026. No macro, syntax, notation, axiom, sorry.
-/
import Derived.Test.YbulkancoFmtRows
import GoSem.ClaimSeven
namespace Go.Proofs.YbulkancoFmt
namespace Rows

/-- THE TOLD AND TIED CARD OF 'eap.LawS1938CSpec'. -/
def lawS1938CSpecCard : Claim7 := { stood := { row := lawS1938CSpecRow, standIns := [], harness := (true, "97f326a2ae95b9f077fe714f941b6c81bb2a084afe067b3befb548f840652615"), looks := true }, told := true, laidByText := true, laidKinds := [.mapped], laidTests := true, laidLooks := .later, goes := false }
def LawS1938CSpecToldSaid : Prop := Claim7.holds Ybaf.pinned (.plain (OpenSpec.ofChange lawS1938CSpecSpec)) lawS1938CSpecCard
/-- ITS FALSE NEIGHBOUR. Refute it at one input. -/
def LawS1938CSpecToldWrongFalsely : Prop := Claim7.holds Ybaf.pinned (.plain (OpenSpec.ofChange lawS1938CSpecWrong)) lawS1938CSpecCard
end Rows
end Go.Proofs.YbulkancoFmt
