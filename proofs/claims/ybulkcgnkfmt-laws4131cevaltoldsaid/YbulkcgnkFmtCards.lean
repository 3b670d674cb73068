/-
  DERIVED. GIVEN WITH THE SEED: THE CARDS: each row of YbulkcgnkFmtRows.lean that lists a variable, with what it lists TIED to the program's text (the seventh form; the later family's looks); each row that meets fmt, with fmt's text TOLD by the authors' own Lean function (tested against real Go, not proved from fmt's source: count such statements apart). THE CARD IS WHAT COUNTS. Prove the row's statement (the work); the ties are given (YbulkcgnkFmtTie.lean); close each card by the builder's one call (the guide's Derived/Test/ToyasCard.lean, 'card_holds'). Laid BY PROGRAM, IN A SANDBOX (cutbox-door.mjs). By AI agents, Wed Nov 11 2026. No macro, syntax, notation, axiom, sorry.
-/
import Derived.Test.YbulkcgnkFmtRows
import GoSem.ClaimSeven
namespace Go.Proofs.YbulkcgnkFmt
namespace Rows

/-- THE TOLD CARD OF 'schedule.LawS4131CEval'. -/
def lawS4131CEvalCard : Claim7 := { stood := { row := lawS4131CEvalRow, standIns := [], harness := (true, "5fa7798006fa6360d941098cdfc4a15ed9ff0370fe44ae109966cc0c0962b6ca"), looks := false }, told := true, goes := false }
def LawS4131CEvalToldSaid : Prop := Claim7.holds Ybaf.pinned (.plain (OpenSpec.ofChange lawS4131CEvalSpec)) lawS4131CEvalCard
/-- ITS FALSE NEIGHBOUR. Refute it at one input. -/
def LawS4131CEvalToldWrongFalsely : Prop := Claim7.holds Ybaf.pinned (.plain (OpenSpec.ofChange lawS4131CEvalWrong)) lawS4131CEvalCard
end Rows
end Go.Proofs.YbulkcgnkFmt
