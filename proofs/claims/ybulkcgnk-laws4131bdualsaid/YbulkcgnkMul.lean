import Derived.Test.YbulkcgnkRows
import Derived.Test.YbulkcgnkRow
import Derived.WalkSpells
import Derived.WalkLawsBesides
import Derived.Deep.CutRange
namespace Go.Proofs.Ybulkcgnk
open Go.RowKit

theorem and_mask : ∀ p : Nat, p ≤ 512 → bits BinOp.and IntKind.u64 (p : Int) 4294967295 = (p : Int) := by decide +kernel
theorem mul64_one (w : World) (p : Nat) (hp : p ≤ 512) :
    Calls Yba.prog 14 #[.int .u64 1, .int .u64 (p : Int)] w fun e w' => e = .returned (.tuple #[.int .u64 0, .int .u64 (p : Int)]) ∧ w' = w := by
  have hb1 : bits BinOp.and IntKind.u64 1 4294967295 = 1 := by decide +kernel
  have hb0 : bits BinOp.and IntKind.u64 0 4294967295 = 0 := by decide +kernel
  have hb2 := and_mask p hp
  have hp0 : (p : Int) / 4294967296 = 0 := by omega
  have hw1 : IntKind.u64.wrap (p : Int) = (p : Int) := by rw [IntKind.wrap_u64]; omega
  have hw0 : IntKind.u64.wrap 0 = 0 := by decide +kernel
  go_enter Yba.func14, Yba.ntmps14
  go_wp2
  go_ret2
  exact ⟨rfl, rfl⟩
theorem mul_one (w : World) (p : Nat) (hp : p ≤ 512) :
    Calls Yba.prog 12 #[.int .u64 1, .int .u64 (p : Int)] w fun e w' => e = .returned (.tuple #[.int .u64 0, .int .u64 (p : Int)]) ∧ w' = w := by
  go_enter Yba.func12, Yba.ntmps12
  go_wp2_with (go_at_call 14; refine (mul64_one _ p hp).mono ?_; rintro _ _ ⟨rfl, rfl⟩)
  go_ret2
  exact ⟨rfl, rfl⟩
end Go.Proofs.Ybulkcgnk
