/-
  No cell of these rows narrows 'for every input' (looked for: loops, veiled, ifaces, maps, wideKeys, modest, calm, conditions, laid).
  DERIVED. THE GIVEN ROWS OF THIS SEAT. 1 by the template 'for every input the law returns true; each argument reads behind the call as it read before'; 0 by the template 'total and deterministic' (their statements: YbulkcgnkFmtTotals.lean).
  GIVEN WITH THE SEED: the statements are not yours to turn. If you find one false, say at which input.
  Laid BY PROGRAM, IN A SANDBOX (cutbox-rows.mjs): the forced cells as the released guide's own fill.sh prints them over the translation 374408e808a6f35c… (all of the seat's roots in one cut). By AI agents, Wed Nov 11 2026. No macro, syntax, notation, axiom, sorry.
-/
import Derived.Test.YbulkcgnkFmtChecked
import GoSem.Claim
import GoSem.ClaimJoined
import GoSem.ClaimMapViews
import Derived.JoinedTies
import Derived.KernelRfl
namespace Go.Proofs.YbulkcgnkFmt
/- THE CELL 'sum', in the pinned program and in every row, IS THE sha256 OF THE DUMP (.gsa) THAT YbulkcgnkFmtProg.lean LOADS. Nothing in Lean hashes anything: it is a label: what it is worth is what the hold of that sum in a sandbox is worth. -/
noncomputable def Ybaf.pinned : Pinned := { name := "ybulkcgnkfmt", sum := "374408e808a6f35c22c8951f4ad0bce270ab0e8abed20c6b5610d1e3ca100cd8", checked := Ybaf.checked }
namespace Rows
def none {H : Type} : Left H := { results := [], args := [] }

/-- 'schedule.LawS4131CEval': WHATEVER THE INPUT: true; the input reads as it did. -/
def lawS4131CEvalSpec : ChangeSpec := { name := "lawS4131CEval", fn := fun _ => fun
  | [d1, d2, d3, d4] => { results := [.lit (.bool true)], args := [d1, d2, d3, d4] }
  | _ => none }
def lawS4131CEvalRow : OpenClaim := { program := "ybulkcgnkfmt", sum := "374408e808a6f35c22c8951f4ad0bce270ab0e8abed20c6b5610d1e3ca100cd8", func := "example.com/serialix/serialix/pkg/schedule.LawS4131CEval", spec := "lawS4131CEval", stops := ["fmt.errorf"], inPlace := ["fmt.errorf", "math/bits.Sub64", "math/bits.Add64"], unfollowed := true, recurses := true, apart := false }
/-- NO THEOREM (fmt's text is open here; it may be false): for the released tool's asking of the row's closed facts alone. THE STATEMENT IS 'LawS4131CEvalToldSaid' (YbulkcgnkFmtCards.lean). -/
def LawS4131CEvalFormAsk : Prop := lawS4131CEvalRow.holds Ybaf.pinned (OpenSpec.ofChange lawS4131CEvalSpec)

/-- ITS FALSE NEIGHBOUR: 'it returns false'. Refute it at one input. -/
def lawS4131CEvalWrong : ChangeSpec := { name := "lawS4131CEval", fn := fun _ => fun
  | [d1, d2, d3, d4] => { results := [.lit (.bool false)], args := [d1, d2, d3, d4] }
  | _ => none }
def LawS4131CEvalWrongFormAsk : Prop := lawS4131CEvalRow.holds Ybaf.pinned (OpenSpec.ofChange lawS4131CEvalWrong)

end Rows
end Go.Proofs.YbulkcgnkFmt
