/-
  DERIVED. GIVEN WITH THE SEED: THE CARDS: each row of YbulkcgnkDoorRows.lean that lists a variable, with what it lists TIED to the program's text (the seventh form; the later family's looks); each row that meets fmt, with fmt's text TOLD by the authors' own Lean function (tested against real Go, not proved from fmt's source: count such statements apart). THE CARD IS WHAT COUNTS. Prove the row's statement (the work); the ties are given (YbulkcgnkDoorTie.lean); close each card by the builder's one call (the guide's Derived/Test/ToyasCard.lean, 'card_holds'). Laid BY PROGRAM, IN A SANDBOX (cutbox-door.mjs). By AI agents, Wed Nov 11 2026. No macro, syntax, notation, axiom, sorry.
-/
import Derived.Test.YbulkcgnkDoorRows
import GoSem.ClaimSeven
namespace Go.Proofs.YbulkcgnkDoor
namespace Rows

/-- THE TIED CARD OF 'interleaving.LawS4131AHolds'. -/
def lawS4131AHoldsCard : Claim7 := { stood := { row := lawS4131AHoldsRow, standIns := [], harness := (true, "b32a1ffc57022a50b38a39e51aec2413452b48b722f6fd6d11fc380f80cdbebc"), looks := false }, kinds := [], alts := [], laidByText := true, laidKinds := [.data], laidTests := true, laidLooks := .later }
def LawS4131AHoldsCardSaid : Prop := Claim7.holds Ybad.pinned (.plain (OpenSpec.ofChange lawS4131AHoldsSpec)) lawS4131AHoldsCard
end Rows
end Go.Proofs.YbulkcgnkDoor
