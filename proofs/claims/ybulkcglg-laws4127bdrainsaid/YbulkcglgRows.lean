/-
  No cell of these rows narrows 'for every input' (looked for: loops, veiled, ifaces, maps, wideKeys, modest, calm, conditions, laid).
  DERIVED. THE GIVEN ROWS OF THIS SEAT. 3 by the template 'for every input the law returns true; each argument reads behind the call as it read before'; 0 by the template 'total and deterministic' (their statements: YbulkcglgTotals.lean).
  GIVEN WITH THE SEED: the statements are not yours to turn. If you find one false, say at which input.
  Laid BY PROGRAM, IN A SANDBOX (cutbox-rows.mjs): the forced cells as the released guide's own fill.sh prints them over the translation aace1e3f39b5fdfb… (all of the seat's roots in one cut). By AI agents, Wed Nov 11 2026. No macro, syntax, notation, axiom, sorry.
-/
import Derived.Test.YbulkcglgChecked
import GoSem.Claim
import GoSem.ClaimJoined
import GoSem.ClaimMapViews
import Derived.JoinedTies
import Derived.KernelRfl
namespace Go.Proofs.Ybulkcglg
/- THE CELL 'sum', in the pinned program and in every row, IS THE sha256 OF THE DUMP (.gsa) THAT YbulkcglgProg.lean LOADS. Nothing in Lean hashes anything: it is a label: what it is worth is what the hold of that sum in a sandbox is worth. -/
noncomputable def Yba.pinned : Pinned := { name := "ybulkcglg", sum := "aace1e3f39b5fdfb7858ba4b51108b3d0e3b593865ae040c74774313c7e3a91b", checked := Yba.checked }
namespace Rows
def none {H : Type} : Left H := { results := [], args := [] }

/-- 'runnel.LawS4127BShape': WHATEVER THE INPUT: true; the input reads as it did. -/
def lawS4127BShapeSpec : ChangeSpec := { name := "lawS4127BShape", fn := fun _ => fun
  | [d] => { results := [.lit (.bool true)], args := [d] }
  | _ => none }
def lawS4127BShapeRow : OpenClaim := { program := "ybulkcglg", sum := "aace1e3f39b5fdfb7858ba4b51108b3d0e3b593865ae040c74774313c7e3a91b", func := "example.com/runnel/runnel.LawS4127BShape", spec := "lawS4127BShape", apart := false }
def LawS4127BShapeSaid : Prop := lawS4127BShapeRow.holds Yba.pinned (OpenSpec.ofChange lawS4127BShapeSpec)

/-- ITS FALSE NEIGHBOUR: 'it returns false'. Refute it at one input. -/
def lawS4127BShapeWrong : ChangeSpec := { name := "lawS4127BShape", fn := fun _ => fun
  | [d] => { results := [.lit (.bool false)], args := [d] }
  | _ => none }
def LawS4127BShapeWrongFalsely : Prop := lawS4127BShapeRow.holds Yba.pinned (OpenSpec.ofChange lawS4127BShapeWrong)

/-- 'runnel.LawS4127BDrain': WHATEVER THE INPUT: true; the input reads as it did. -/
def lawS4127BDrainSpec : ChangeSpec := { name := "lawS4127BDrain", fn := fun _ => fun
  | [d] => { results := [.lit (.bool true)], args := [d] }
  | _ => none }
def lawS4127BDrainRow : OpenClaim := { program := "ybulkcglg", sum := "aace1e3f39b5fdfb7858ba4b51108b3d0e3b593865ae040c74774313c7e3a91b", func := "example.com/runnel/runnel.LawS4127BDrain", spec := "lawS4127BDrain", unfollowed := true, recurses := true, apart := false }
def LawS4127BDrainSaid : Prop := lawS4127BDrainRow.holds Yba.pinned (OpenSpec.ofChange lawS4127BDrainSpec)

/-- ITS FALSE NEIGHBOUR: 'it returns false'. Refute it at one input. -/
def lawS4127BDrainWrong : ChangeSpec := { name := "lawS4127BDrain", fn := fun _ => fun
  | [d] => { results := [.lit (.bool false)], args := [d] }
  | _ => none }
def LawS4127BDrainWrongFalsely : Prop := lawS4127BDrainRow.holds Yba.pinned (OpenSpec.ofChange lawS4127BDrainWrong)

/-- 'runnel.LawS4127CModel': WHATEVER THE INPUT: true; the input reads as it did. -/
def lawS4127CModelSpec : ChangeSpec := { name := "lawS4127CModel", fn := fun _ => fun
  | [d1, d2] => { results := [.lit (.bool true)], args := [d1, d2] }
  | _ => none }
def lawS4127CModelRow : OpenClaim := { program := "ybulkcglg", sum := "aace1e3f39b5fdfb7858ba4b51108b3d0e3b593865ae040c74774313c7e3a91b", func := "example.com/runnel/runnel.LawS4127CModel", spec := "lawS4127CModel", unfollowed := true, recurses := true, apart := false }
def LawS4127CModelSaid : Prop := lawS4127CModelRow.holds Yba.pinned (OpenSpec.ofChange lawS4127CModelSpec)

/-- ITS FALSE NEIGHBOUR: 'it returns false'. Refute it at one input. -/
def lawS4127CModelWrong : ChangeSpec := { name := "lawS4127CModel", fn := fun _ => fun
  | [d1, d2] => { results := [.lit (.bool false)], args := [d1, d2] }
  | _ => none }
def LawS4127CModelWrongFalsely : Prop := lawS4127CModelRow.holds Yba.pinned (OpenSpec.ofChange lawS4127CModelWrong)

end Rows
end Go.Proofs.Ybulkcglg
