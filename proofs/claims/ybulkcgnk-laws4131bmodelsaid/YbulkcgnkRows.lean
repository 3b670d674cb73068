/-
  No cell of these rows narrows 'for every input' (looked for: loops, veiled, ifaces, maps, wideKeys, modest, calm, conditions, laid).
  DERIVED. THE GIVEN ROWS OF THIS SEAT. 2 by the template 'for every input the law returns true; each argument reads behind the call as it read before'; 0 by the template 'total and deterministic' (their statements: YbulkcgnkTotals.lean).
  GIVEN WITH THE SEED: the statements are not yours to turn. If you find one false, say at which input.
  Laid BY PROGRAM, IN A SANDBOX (cutbox-rows.mjs): the forced cells as the released guide's own fill.sh prints them over the translation e854743c3d094c19… (all of the seat's roots in one cut). By AI agents, Wed Nov 11 2026. No macro, syntax, notation, axiom, sorry.
-/
import Derived.Test.YbulkcgnkChecked
import GoSem.Claim
import GoSem.ClaimJoined
import GoSem.ClaimMapViews
import Derived.JoinedTies
import Derived.KernelRfl
namespace Go.Proofs.Ybulkcgnk
/- THE CELL 'sum', in the pinned program and in every row, IS THE sha256 OF THE DUMP (.gsa) THAT YbulkcgnkProg.lean LOADS. Nothing in Lean hashes anything: it is a label: what it is worth is what the hold of that sum in a sandbox is worth. -/
noncomputable def Yba.pinned : Pinned := { name := "ybulkcgnk", sum := "e854743c3d094c19c8b4c96ada1a14d33c9830f73cc03752610383e781f7069f", checked := Yba.checked }
namespace Rows
def none {H : Type} : Left H := { results := [], args := [] }

/-- 'graph.LawS4131BModel': WHATEVER THE INPUT: true; the input reads as it did. -/
def lawS4131BModelSpec : ChangeSpec := { name := "lawS4131BModel", fn := fun _ => fun
  | [d1, d2, d3, d4, d5] => { results := [.lit (.bool true)], args := [d1, d2, d3, d4, d5] }
  | _ => none }
def lawS4131BModelRow : OpenClaim := { program := "ybulkcgnk", sum := "e854743c3d094c19c8b4c96ada1a14d33c9830f73cc03752610383e781f7069f", func := "example.com/serialix/serialix/pkg/graph.LawS4131BModel", spec := "lawS4131BModel", apart := false }
def LawS4131BModelSaid : Prop := lawS4131BModelRow.holds Yba.pinned (OpenSpec.ofChange lawS4131BModelSpec)

/-- ITS FALSE NEIGHBOUR: 'it returns false'. Refute it at one input. -/
def lawS4131BModelWrong : ChangeSpec := { name := "lawS4131BModel", fn := fun _ => fun
  | [d1, d2, d3, d4, d5] => { results := [.lit (.bool false)], args := [d1, d2, d3, d4, d5] }
  | _ => none }
def LawS4131BModelWrongFalsely : Prop := lawS4131BModelRow.holds Yba.pinned (OpenSpec.ofChange lawS4131BModelWrong)

/-- 'graph.LawS4131BDual': WHATEVER THE INPUT: true; the input reads as it did. -/
def lawS4131BDualSpec : ChangeSpec := { name := "lawS4131BDual", fn := fun _ => fun
  | [d1, d2, d3, d4] => { results := [.lit (.bool true)], args := [d1, d2, d3, d4] }
  | _ => none }
def lawS4131BDualRow : OpenClaim := { program := "ybulkcgnk", sum := "e854743c3d094c19c8b4c96ada1a14d33c9830f73cc03752610383e781f7069f", func := "example.com/serialix/serialix/pkg/graph.LawS4131BDual", spec := "lawS4131BDual", apart := false }
def LawS4131BDualSaid : Prop := lawS4131BDualRow.holds Yba.pinned (OpenSpec.ofChange lawS4131BDualSpec)

/-- ITS FALSE NEIGHBOUR: 'it returns false'. Refute it at one input. -/
def lawS4131BDualWrong : ChangeSpec := { name := "lawS4131BDual", fn := fun _ => fun
  | [d1, d2, d3, d4] => { results := [.lit (.bool false)], args := [d1, d2, d3, d4] }
  | _ => none }
def LawS4131BDualWrongFalsely : Prop := lawS4131BDualRow.holds Yba.pinned (OpenSpec.ofChange lawS4131BDualWrong)

end Rows
end Go.Proofs.Ybulkcgnk
