import Derived.Test.YbulkcglgShape
import Derived.ProofKit
import Derived.OpenShut
import Derived.ChangeOld
import Derived.Deep.SlicePairs
namespace Go.Proofs.Ybulkcglg.lawS4127BShape
open Go.ChangeShapes Go.WideShapes Go.ChangeAt Go.RowKit Go.Deep

theorem own : ownKnob Yba.prog.godebug = none := by kernel_rfl
theorem laidOut : laidOutB Yba.prog = true := by kernel_rfl

/-- Too long: nothing is done. -/
theorem walk_long (a : Option Addr) (len cap : Nat) (h : 1024 < len) (w : World) :
    Calls Yba.prog 3 #[.slice a len cap] w fun e w' => e = .returned (.bool true) ∧ Below w.heap.size w w' := by
  have e1 : decide ((1024 : Int) < (len : Int)) = true := by simp; omega
  go_enter Yba.func3, Yba.ntmps3
  go_wp2
  go_ret
  exact ⟨rfl, Below.refl _ _⟩
theorem walk_empty (a : Option Addr) (cap : Nat) (w : World) :
    Calls Yba.prog 3 #[.slice a 0 cap] w fun e w' => e = .returned (.bool true) ∧ Below w.heap.size w w' := by
  go_enter Yba.func3, Yba.ntmps3
  go_wp2
  go_ret
  exact ⟨rfl, Below.refl _ _⟩

/-- What the walk is told of the slice that came in. -/
def IsPairs (w : World) (a : Option Addr) (len : Nat) (g : Nat → Int × Int) : Prop :=
  len = 0 ∨ ∃ b off, a = some ⟨b, off, none⟩ ∧ b < w.heap.size ∧ (∀ j, j < len → w.cell? ⟨b, off + j * 2, none⟩ = some (.int .i64 (g j).1)) ∧ ∀ j, j < len → w.cell? ⟨b, off + j * 2 + 1, none⟩ = some (.int .i64 (g j).2)

theorem walk (a : Option Addr) (len cap : Nat) (g : Nat → Int × Int) (w : World) (h : IsPairs w a len g) :
    Calls Yba.prog 3 #[.slice a len cap] w fun e w' => e = .returned (.bool true) ∧ Below w.heap.size w w' := by
  rcases h with rfl | ⟨b, off, rfl, hb, c0, c1⟩
  · exact walk_empty a cap w
  · by_cases hl : 1024 < len
    · exact walk_long _ len cap hl w
    · by_cases h0 : len = 0
      · subst h0; exact walk_empty _ cap w
      · exact shape_some w b off len cap g hb (by omega) (by omega) c0 c1

theorem Yba.cells25 : Yba.prog.cellsOf 25 = 2 := by kernel_rfl
theorem Yba.cells3 : Yba.prog.cellsOf 3 = 1 := by kernel_rfl

set_option maxRecDepth 100000 in
theorem lifted (os : Os) (started : os.Started) (H : Type) (enc : TypeId × Value → H) :
    ReturnsInHanded {} Yba.checked os 3 .any (Rows.lawS4127BShapeSpec.pre6 enc Yba.prog Yba.f3 Rows.lawS4127BShapeRow.domain false) (Rows.lawS4127BShapeSpec.post enc Yba.prog Yba.f3 false true false false) := by
  refine returnsInHanded_of_change (C := Yba.checked) own started (by kernel_rfl) Yba.func3
    (ChangeSpec.witness6 (enc := enc) (C := Yba.checked) false ⟨#[], #[.slice none 0 0], []⟩ 8 (by kernel_rfl) (by kernel_rfl) (by kernel_rfl) (by kernel_rfl)) ?_
  intro W base args ds gs before hval0 hW hcnd _
  have hval : ∀ (j : Nat) t v, Yba.f3.params[j]? = some t → args[j]? = some v → Value.okWide Yba.prog W .any base t v := hval0
  have hW' := hW
  obtain ⟨p, q, hA0, hV, rfl, hfz, hnd⟩ := hW
  have hA : DataW.TrodAll enc Yba.prog W 0 (fun _ => true) true Yba.f3.params.toList args.toList ds p := hA0
  rw [Yba.params3] at hA hval
  obtain ⟨v0, vs0, d0, ds0, p0, q0, hargs, rfl, rfl, h0, r0⟩ := trodAll_cons hA
  obtain ⟨rfl, rfl, rfl⟩ := trodAll_nil r0
  obtain rfl : args = #[v0] := by cases args; simp_all
  obtain ⟨rfl, rfl⟩ := trodVars_none hV
  obtain ⟨a0, len0, cap0, rfl⟩ := okWide_slice Yba.underlying22 (hval 0 22 v0 rfl rfl)
  have k0 := h0
  have lt0 : ∀ x ∈ p0, x.block < W.heap.size := by obtain ⟨m, hm⟩ := k0; exact DataW.trod_lt m _ _ _ hm
  obtain ⟨g, w0⟩ : ∃ g, IsPairs W a0 len0 g := by
    obtain ⟨fuel, hf⟩ := h0
    rcases open_slice_pairs Yba.underlying22 Yba.underlying25 Yba.cells25 rfl rfl Yba.cells3 Yba.cells3 hf with ⟨hcs, _⟩ | ⟨a, len, cap, m, n, V0, V1, D0, D1, P0, P1, hcs, _, hl, hm, hz, _, hx⟩
    · simp [Value.cells] at hcs
      obtain ⟨rfl, rfl, rfl⟩ := hcs
      exact ⟨fun _ => (0, 0), .inl rfl⟩
    · simp [Value.cells] at hcs
      obtain ⟨rfl, rfl, rfl⟩ := hcs
      simp only [if_true] at hz
      by_cases hl0 : len0 = 0
      · exact ⟨fun _ => (0, 0), .inl hl0⟩
      · obtain ⟨b, off, spot⟩ := a
        have hspot : spot = none := by simpa [Addr.add] using World.cell?_spot (hx 0 (by omega)).1
        subst hspot
        have hvals : ∀ j, j < len0 → ∃ q : Int × Int, V0 j = .int .i64 q.1 ∧ V1 j = .int .i64 q.2 := fun j hj => by
          obtain ⟨_, _, t0, t1⟩ := hx j (by omega)
          obtain ⟨x, e0, _⟩ := DataW.trod_int Yba.underlying3 t0
          obtain ⟨y, e1, _⟩ := DataW.trod_int Yba.underlying3 t1
          simp at e0 e1
          exact ⟨(x, y), e0, e1⟩
        obtain ⟨g, hg⟩ := choose_lt hvals
        refine ⟨g, .inr ⟨b, off, rfl, World.block_lt_of_cell? W _ (hx 0 (by omega)).1, fun j hj => ?_, fun j hj => ?_⟩⟩
        · rw [← (hg j hj).1, ← add_plain]; exact (hx j (by omega)).1
        · rw [← (hg j hj).2, Nat.add_assoc, ← add_plain]; exact (hx j (by omega)).2.1
  clear hA0 hval0
  refine (walk a0 len0 cap0 g W w0).mono fun e W' ⟨he, bel⟩ => ?_
  subst he
  exact ⟨_, rfl, _, _, _, [], _, [], hW', trodAll_mk1 (shut_bool Yba.underlying4 _), (trodAll_cons_mk (Below.trod laidOut (by kernel_rfl) (of_decide_eq_true (by kernel_rfl)) k0 bel lt0) trodAll_mk0), rfl, bel.frame _, fun h => by cases h⟩

theorem over : Rows.lawS4127BShapeRow.holds Yba.pinned (OpenSpec.ofChange Rows.lawS4127BShapeSpec) :=
  OpenClaim.holds_of_wide 3 Yba.f3 rfl rfl rfl rfl rfl rfl rfl ⟨rfl, rfl, rfl, rfl, rfl⟩ rfl rfl rfl rfl rfl (by kernel_rfl) Yba.func3 (by kernel_rfl)
    (of_decide_eq_true (by kernel_rfl)) (by unfold Func.isWrapper; first | (rw [if_pos (by decide +kernel)]; kernel_rfl) | (rw [if_neg (by decide +kernel)]; exact ⟨rfl, rfl⟩))
    (fun os started H enc _ => lifted os started H enc)

theorem proved : Rows.LawS4127BShapeSaid := over
end Go.Proofs.Ybulkcglg.lawS4127BShape
