/-
  DERIVED. GIVEN WITH THE SEED: THE CARDS: each row of YbulkanayDoorRows.lean that lists a variable, with what it lists TIED to the program's text (the seventh form; the later family's looks); each row that meets fmt, with fmt's text TOLD by the authors' own Lean function (tested against real Go, not proved from fmt's source: count such statements apart). THE CARD IS WHAT COUNTS. Prove the row's statement (the work); the ties are given (YbulkanayDoorTie.lean); close each card by the builder's one call (the guide's Derived/Test/ToyasCard.lean, 'card_holds'). Laid BY PROGRAM, IN A SANDBOX (cutbox-door.mjs). By AI agents, Wed Nov 11 2026. No macro, syntax, notation, axiom, sorry.
-/
import Derived.Test.YbulkanayDoorRows
import GoSem.ClaimSeven
namespace Go.Proofs.YbulkanayDoor
namespace Rows

/-- THE TIED CARD OF 'mahjong.LawS1935AModel'. -/
def lawS1935AModelCard : Claim7 := { stood := { row := lawS1935AModelRow, standIns := [], harness := (true, "9b1267a867ae3d60944f74ab6ea8251343f51588aadf6443843ace54bf7ecc6a"), looks := false }, kinds := [], alts := [], laidByText := true, laidKinds := [.wider], laidTests := true, laidLooks := .later }
def LawS1935AModelCardSaid : Prop := Claim7.holds Ybad.pinned (.plain (OpenSpec.ofChange lawS1935AModelSpec)) lawS1935AModelCard

/-- THE TIED CARD OF 'mahjong.LawS1935AHighBits'. -/
def lawS1935AHighBitsCard : Claim7 := { stood := { row := lawS1935AHighBitsRow, standIns := [], harness := (true, "9b1267a867ae3d60944f74ab6ea8251343f51588aadf6443843ace54bf7ecc6a"), looks := false }, kinds := [], alts := [], laidByText := true, laidKinds := [.wider], laidTests := true, laidLooks := .later }
def LawS1935AHighBitsCardSaid : Prop := Claim7.holds Ybad.pinned (.plain (OpenSpec.ofChange lawS1935AHighBitsSpec)) lawS1935AHighBitsCard
end Rows
end Go.Proofs.YbulkanayDoor
