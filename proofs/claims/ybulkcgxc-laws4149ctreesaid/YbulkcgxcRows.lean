/-
  No cell of these rows narrows 'for every input' (looked for: loops, veiled, ifaces, maps, wideKeys, modest, calm, conditions, laid).
  DERIVED. THE GIVEN ROWS OF THIS SEAT. 1 by the template 'for every input the law returns true; each argument reads behind the call as it read before'; 0 by the template 'total and deterministic' (their statements: YbulkcgxcTotals.lean).
  GIVEN WITH THE SEED: the statements are not yours to turn. If you find one false, say at which input.
  Laid BY PROGRAM, IN A SANDBOX (cutbox-rows.mjs): the forced cells as the released guide's own fill.sh prints them over the translation e6afb9b6d09d13e6… (all of the seat's roots in one cut). By AI agents, Wed Nov 11 2026. No macro, syntax, notation, axiom, sorry.
-/
import Derived.Test.YbulkcgxcChecked
import GoSem.Claim
import GoSem.ClaimJoined
import GoSem.ClaimMapViews
import Derived.JoinedTies
import Derived.KernelRfl
namespace Go.Proofs.Ybulkcgxc
/- THE CELL 'sum', in the pinned program and in every row, IS THE sha256 OF THE DUMP (.gsa) THAT YbulkcgxcProg.lean LOADS. Nothing in Lean hashes anything: it is a label: what it is worth is what the hold of that sum in a sandbox is worth. -/
noncomputable def Yba.pinned : Pinned := { name := "ybulkcgxc", sum := "e6afb9b6d09d13e64b7d2fd1bdf42a6622826cadcfa3e18d0be6cf8bd8d394ce", checked := Yba.checked }
namespace Rows
def none {H : Type} : Left H := { results := [], args := [] }

/-- 'shiviz.LawS4149CTree': WHATEVER THE INPUT: true; the input reads as it did. -/
def lawS4149CTreeSpec : ChangeSpec := { name := "lawS4149CTree", fn := fun _ => fun
  | [d1, d2, d3] => { results := [.lit (.bool true)], args := [d1, d2, d3] }
  | _ => none }
def lawS4149CTreeRow : OpenClaim := { program := "ybulkcgxc", sum := "e6afb9b6d09d13e64b7d2fd1bdf42a6622826cadcfa3e18d0be6cf8bd8d394ce", func := "example.com/hindsight/hindsight/internal/shiviz.LawS4149CTree", spec := "lawS4149CTree", recurses := true, apart := false }
def LawS4149CTreeSaid : Prop := lawS4149CTreeRow.holds Yba.pinned (OpenSpec.ofChange lawS4149CTreeSpec)

/-- ITS FALSE NEIGHBOUR: 'it returns false'. Refute it at one input. -/
def lawS4149CTreeWrong : ChangeSpec := { name := "lawS4149CTree", fn := fun _ => fun
  | [d1, d2, d3] => { results := [.lit (.bool false)], args := [d1, d2, d3] }
  | _ => none }
def LawS4149CTreeWrongFalsely : Prop := lawS4149CTreeRow.holds Yba.pinned (OpenSpec.ofChange lawS4149CTreeWrong)

end Rows
end Go.Proofs.Ybulkcgxc
