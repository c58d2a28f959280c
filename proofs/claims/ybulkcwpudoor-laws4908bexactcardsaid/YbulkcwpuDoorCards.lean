/-
  DERIVED. GIVEN WITH THE SEED: THE CARDS: each row of YbulkcwpuDoorRows.lean that lists a variable, with what it lists TIED to the program's text (the seventh form; the later family's looks); each row that meets fmt, with fmt's text TOLD by the authors' own Lean function (tested against real Go, not proved from fmt's source: count such statements apart). THE CARD IS WHAT COUNTS. Prove the row's statement (the work); the ties are given (YbulkcwpuDoorTie.lean); close each card by the builder's one call (the guide's Derived/Test/ToyasCard.lean, 'card_holds'). Laid BY PROGRAM, IN A SANDBOX (cutbox-door.mjs). By AI agents, Wed Nov 11 2026. No macro, syntax, notation, axiom, sorry.
-/
import Derived.Test.YbulkcwpuDoorRows
import GoSem.ClaimSeven
namespace Go.Proofs.YbulkcwpuDoor
namespace Rows

/-- THE TIED CARD OF 'plane.LawS4908BExact'. -/
def lawS4908BExactCard : Claim7 := { stood := { row := lawS4908BExactRow, standIns := [], harness := (true, "a40c3bb568c7c6e0929bec6030a29413c7c776c64f933aedbbc3a34e71f65015"), looks := false }, kinds := [], alts := [], laidByText := true, laidKinds := [.data], laidTests := true, laidLooks := .later }
def LawS4908BExactCardSaid : Prop := Claim7.holds Ybad.pinned (.plain (OpenSpec.ofChange lawS4908BExactSpec)) lawS4908BExactCard
end Rows
end Go.Proofs.YbulkcwpuDoor
