import Derived.Test.YbulkcgnkMem
import Derived.Test.YbulkcgnkFord
namespace Go.Proofs.Ybulkcgnk
open Go.RowKit

/-- A row of ints. -/
def ints (r : Nat → Int) : Nat → Value := fun x => .int .i64 (r x)
theorem ints_upd {w : World} {b p : Nat} {r : Nat → Int} (h : w.rowIs b 3 p (ints r)) (x : Nat) (c : Int) : (w.setCell ⟨b, x, none⟩ (.int .i64 c)).rowIs b 3 p (ints (updI r x c)) :=
  (h.set x (.int .i64 c)).congr fun j _ => by
    by_cases e : j = x
    · subst e; simp [ints, updI]
    · simp [ints, updI, e]
/-- The ends of the edges, as two rows. -/
def EndsAt (w : World) (fa ta : Option Addr) (E : List (Nat × Nat)) : Prop :=
  ∀ i e, E[i]? = some e → ∃ fb tb, fa = some ⟨fb, 0, none⟩ ∧ ta = some ⟨tb, 0, none⟩ ∧ w.cell? ⟨fb, i, none⟩ = some (.int .i64 (e.1 : Int)) ∧ w.cell? ⟨tb, i, none⟩ = some (.int .i64 (e.2 : Int))
end Go.Proofs.Ybulkcgnk
