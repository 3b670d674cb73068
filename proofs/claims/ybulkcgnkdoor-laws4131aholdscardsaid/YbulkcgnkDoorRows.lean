/-
  NARROWER THAN 'FOR EVERY INPUT', by the rows' own cells (each row's printed sentence says how): LawS4131AHolds: laid.
  DERIVED. THE GIVEN ROWS OF THIS SEAT. 1 by the template 'for every input the law returns true; each argument reads behind the call as it read before'; 0 by the template 'total and deterministic' (their statements: YbulkcgnkDoorTotals.lean).
  GIVEN WITH THE SEED: the statements are not yours to turn. If you find one false, say at which input.
  Laid BY PROGRAM, IN A SANDBOX (cutbox-rows.mjs): the forced cells as the released guide's own fill.sh prints them over the translation 4979c89a9dc31f67… (all of the seat's roots in one cut). By AI agents, Wed Nov 11 2026. No macro, syntax, notation, axiom, sorry.
-/
import Derived.Test.YbulkcgnkDoorChecked
import GoSem.Claim
import GoSem.ClaimJoined
import GoSem.ClaimMapViews
import Derived.JoinedTies
import Derived.KernelRfl
namespace Go.Proofs.YbulkcgnkDoor
/- THE CELL 'sum', in the pinned program and in every row, IS THE sha256 OF THE DUMP (.gsa) THAT YbulkcgnkDoorProg.lean LOADS. Nothing in Lean hashes anything: it is a label: what it is worth is what the hold of that sum in a sandbox is worth. -/
noncomputable def Ybad.pinned : Pinned := { name := "ybulkcgnkdoor", sum := "4979c89a9dc31f67b969a11c570bddde06378f9f9e8c6a3d40d3c69d5749c349", checked := Ybad.checked }
namespace Rows
def none {H : Type} : Left H := { results := [], args := [] }

/- WHAT THE LISTED PACKAGE-LEVEL VARIABLES READ AS WHEN THE CALL BEGINS. Each datum BY PROGRAM (the guide's laid-datum.mjs) off the statement by which the dump's own 'gosem.cut.vars' lays the variable. In a bare row this is a premise. The card (YbulkcgnkDoorCards.lean) ties it to the program's text. -/
def laid_example_com_serialix_serialix_pkg_lock_kinds {H : Type} : DataW H := .agg [.lit (.int .i64 0), .lit (.int .i64 5), .lit (.int .i64 6), .lit (.int .i64 7), .lit (.int .i64 8), .lit (.int .i64 9), .lit (.int .i64 11), .lit (.int .i64 12), .lit (.int .i64 13)]

/-- 'interleaving.LawS4131AHolds': WHATEVER THE INPUT: true; the input reads as it did. -/
def lawS4131AHoldsSpec : ChangeSpec := { name := "lawS4131AHolds", vars := ["example.com/serialix/serialix/pkg/lock.kinds"], fn := fun _ => fun
  | [d1, d2, g1] => { results := [.lit (.bool true)], args := [d1, d2], vars := [g1] }
  | _ => none }
def lawS4131AHoldsRow : OpenClaim := { program := "ybulkcgnkdoor", sum := "4979c89a9dc31f67b969a11c570bddde06378f9f9e8c6a3d40d3c69d5749c349", func := "example.com/serialix/serialix/pkg/analysis/interleaving.LawS4131AHolds", spec := "lawS4131AHolds", named := ["example.com/serialix/serialix/pkg/lock.kinds"], apart := false, laid := [("example.com/serialix/serialix/pkg/lock.kinds", laid_example_com_serialix_serialix_pkg_lock_kinds)] }
def LawS4131AHoldsSaid : Prop := lawS4131AHoldsRow.holds Ybad.pinned (OpenSpec.ofChange lawS4131AHoldsSpec)

/-- ITS FALSE NEIGHBOUR: 'it returns false'. Refute it at one input. -/
def lawS4131AHoldsWrong : ChangeSpec := { name := "lawS4131AHolds", vars := ["example.com/serialix/serialix/pkg/lock.kinds"], fn := fun _ => fun
  | [d1, d2, g1] => { results := [.lit (.bool false)], args := [d1, d2], vars := [g1] }
  | _ => none }
def LawS4131AHoldsWrongFalsely : Prop := lawS4131AHoldsRow.holds Ybad.pinned (OpenSpec.ofChange lawS4131AHoldsWrong)

end Rows
end Go.Proofs.YbulkcgnkDoor
