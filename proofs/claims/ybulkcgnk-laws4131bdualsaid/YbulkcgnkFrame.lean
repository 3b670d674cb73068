import Derived.Test.YbulkcgnkBuild
import Derived.ProofKit
import Derived.OpenShut
import Derived.ChangeOld
import Derived.Deep.SlicePairs
namespace Go.Proofs.Ybulkcgnk
open Go.ChangeShapes Go.WideShapes Go.ChangeAt Go.RowKit Go.Deep

theorem own : ownKnob Yba.prog.godebug = none := by kernel_rfl
theorem laidOut : laidOutB Yba.prog = true := by kernel_rfl
theorem Yba.cells35 : Yba.prog.cellsOf 35 = 2 := by kernel_rfl
theorem Yba.cells23 : Yba.prog.cellsOf 23 = 1 := by kernel_rfl

/-- The edges that came in. -/
theorem edges_of {H : Type} {enc : TypeId × Value → H} {W : World} {a0 : Option Addr} {len0 cap0 : Nat} {d : DataW H} {ps : List MemPlace}
    (h0 : DataW.Trod enc Yba.prog W 0 (fun _ => true) true 22 (.slice a0 len0 cap0) d ps) : ∃ f, InE W a0 len0 f := by
  obtain ⟨fuel, hf⟩ := h0
  rcases open_slice_pairs Yba.underlying22 Yba.underlying35 Yba.cells35 rfl rfl Yba.cells23 Yba.cells23 hf with ⟨hcs, _⟩ | ⟨a, len, cap, m, n, V0, V1, D0, D1, P0, P1, hcs, _, hl, hm, hz, _, hx⟩
  · simp [Value.cells] at hcs
    obtain ⟨rfl, rfl, rfl⟩ := hcs
    exact ⟨fun _ => (0, 0), fun j hj => by omega⟩
  · simp [Value.cells] at hcs
    obtain ⟨rfl, rfl, rfl⟩ := hcs
    simp only [if_true] at hz
    by_cases hl0 : len0 = 0
    · exact ⟨fun _ => (0, 0), fun j hj => by omega⟩
    · obtain ⟨b, off, spot⟩ := a
      have hspot : spot = none := by simpa [Addr.add] using World.cell?_spot (hx 0 (by omega)).1
      subst hspot
      have hvals : ∀ j, j < len0 → ∃ q : Nat × Nat, V0 j = .int .u16 (q.1 : Int) ∧ V1 j = .int .u16 (q.2 : Int) ∧ q.1 < 65536 ∧ q.2 < 65536 := fun j hj => by
        obtain ⟨_, _, t0, t1⟩ := hx j (by omega)
        obtain ⟨x, e0, _, wx⟩ := DataW.trod_int Yba.underlying23 t0
        obtain ⟨y, e1, _, wy⟩ := DataW.trod_int Yba.underlying23 t1
        simp at e0 e1
        obtain ⟨x0, x1⟩ := bounds_u16 wx
        obtain ⟨y0, y1⟩ := bounds_u16 wy
        exact ⟨(x.toNat, y.toNat), by rw [e0, Int.toNat_of_nonneg x0], by rw [e1, Int.toNat_of_nonneg y0], by omega, by omega⟩
      obtain ⟨g, hg⟩ := choose_lt hvals
      refine ⟨g, fun j hj => ⟨b, off, rfl, (hg j hj).2.2.1, (hg j hj).2.2.2, ?_, ?_⟩⟩
      · rw [← (hg j hj).1, ← add_plain]; exact (hx j (by omega)).1
      · rw [← (hg j hj).2.1, Nat.add_assoc, ← add_plain]; exact (hx j (by omega)).2.1
end Go.Proofs.Ybulkcgnk
