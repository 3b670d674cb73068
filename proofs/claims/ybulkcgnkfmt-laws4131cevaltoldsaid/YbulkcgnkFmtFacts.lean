import Derived.Test.YbulkcgnkFmtRows
import Derived.Stop.CallBack
import Derived.Stop.IfaceNil
import Derived.Shelf.Spec.BitsCarry
import Derived.WalkKit
import Derived.WalkSpells
namespace Go.Proofs.YbulkcgnkFmt
open Go.RowKit Go.Extern.Stop Go.Stop Go.Extern

/-! ### fmt's stop at this dump -/
@[go_sem] theorem Ybaf.call12 (args : Array Value) (w : World) : (callFunc 12 args).run Ybaf.prog w = ((FmtStop.errorf #[9, 51] #[35] args).run Ybaf.prog w).andThen fun v w' => .ok (.value v) w' :=
  run_callFunc_extern Ybaf.func12 (by kernel_rfl) (by kernel_rfl) (by kernel_rfl) (by kernel_rfl) args w
@[go_sem] theorem Ybaf.guard (name : String) (w : World) : (FmtStop.guard name).run Ybaf.prog w = .ok () w := by kernel_rfl
@[go_sem] theorem Ybaf.fmt0 : FmtStop.printed? ⟨#[116, 104, 101, 32, 118, 97, 108, 117, 101, 32, 97, 100, 100, 115, 32, 117, 112, 32, 116, 111, 32, 109, 111, 114, 101, 32, 116, 104, 97, 110, 32, 37, 100]⟩ 1 = some [(0, 100, false)] := by kernel_rfl
@[go_sem] theorem Ybaf.fmt1 : FmtStop.printed? ⟨#[116, 104, 101, 32, 118, 97, 108, 117, 101, 32, 97, 100, 100, 115, 32, 117, 112, 32, 116, 111, 32, 108, 101, 115, 115, 32, 116, 104, 97, 110, 32, 37, 100]⟩ 1 = some [(0, 100, false)] := by kernel_rfl
@[go_sem] theorem Ybaf.fmt0r (w : World) : (FmtDoors.printed ⟨#[116, 104, 101, 32, 118, 97, 108, 117, 101, 32, 97, 100, 100, 115, 32, 117, 112, 32, 116, 111, 32, 109, 111, 114, 101, 32, 116, 104, 97, 110, 32, 37, 100]⟩ 1).run Ybaf.prog w = .ok [(0, 100, false)] w := by kernel_rfl
@[go_sem] theorem Ybaf.fmt1r (w : World) : (FmtDoors.printed ⟨#[116, 104, 101, 32, 118, 97, 108, 117, 101, 32, 97, 100, 100, 115, 32, 117, 112, 32, 116, 111, 32, 108, 101, 115, 115, 32, 116, 104, 97, 110, 32, 37, 100]⟩ 1).run Ybaf.prog w = .ok [(0, 100, false)] w := by kernel_rfl
def Ybaf.shape2 : List UInt8 := [5, 5, 0, 0, 0, 0, 0, 0, 0, 105, 110, 116, 54, 52]
@[go_sem] theorem Ybaf.op2_100w (name : String) (x : Int) (w : World) : (FmtStop.operand name true 100 false (.iface 2 (.int .i64 x))).run Ybaf.prog w = .ok (Ybaf.shape2, Go.Extern.Stop.digits 8 (x % 2 ^ 64).toNat) w := by kernel_rfl
@[go_sem] theorem Ybaf.ptr54 (w : World) : (FmtStop.ptrTo "errors.errorString").run Ybaf.prog w = .ok 54 w := by kernel_rfl
@[go_sem] theorem Ybaf.elem54 (w : World) : (elemOf 54).run Ybaf.prog w = .ok 56 w := by kernel_rfl

/-! ### math/bits at this dump -/
theorem add64 (x y c : Int) (hx : 0 ≤ x) (hy : 0 ≤ y) (hc0 : 0 ≤ c) (hc : c ≤ 1) (w : World) : (callFunc 8 #[.int .u64 x, .int .u64 y, .int .u64 c]).run Ybaf.prog w =
    .ok (.value (.tuple #[.int .u64 ((x + y + c) % 18446744073709551616), .int .u64 ((x + y + c) / 18446744073709551616)])) w := by
  rw [run_callFunc_extern Ybaf.func8 (by kernel_rfl) (by kernel_rfl) (by kernel_rfl) (e := add64Entry) (by kernel_rfl), run_add64 x y c hx hy hc0 hc]
  rfl
theorem sub64 (x y b : Int) (hx : 0 ≤ x) (hy : 0 ≤ y) (hy' : y < 18446744073709551616) (hb0 : 0 ≤ b) (hb : b ≤ 1) (w : World) : (callFunc 7 #[.int .u64 x, .int .u64 y, .int .u64 b]).run Ybaf.prog w =
    .ok (.value (.tuple #[.int .u64 ((x - y - b) % 18446744073709551616), .int .u64 (if x < y + b then 1 else 0)])) w := by
  obtain ⟨x, rfl⟩ := Int.eq_ofNat_of_zero_le hx
  obtain ⟨y, rfl⟩ := Int.eq_ofNat_of_zero_le hy
  obtain ⟨b, rfl⟩ := Int.eq_ofNat_of_zero_le hb0
  have e1 : (((x + 18446744073709551616 - y - b) % 18446744073709551616 : Nat) : Int) = ((x : Int) - y - b) % 18446744073709551616 := by omega
  have e2 : ((if x < y + b then 1 else 0 : Nat) : Int) = if (x : Int) < y + b then 1 else 0 := by split <;> split <;> omega
  rw [← e1, ← e2]
  rw [run_callFunc_extern Ybaf.func7 (by kernel_rfl) (by kernel_rfl) (by kernel_rfl) (e := sub64Entry) (by kernel_rfl), run_sub64 x y b (by omega)]
  rfl

/-! ### Sum.Int64 -/
theorem errorf_more (F : Interp) (x : Int) (blk : Nat) (w : World) (hF : F.answers w.tape) (hc : w.cell? ⟨blk, 0, none⟩ = some (.iface 2 (.int .i64 x))) :
    Calls Ybaf.prog 11 #[.string ⟨#[116, 104, 101, 32, 118, 97, 108, 117, 101, 32, 97, 100, 100, 115, 32, 117, 112, 32, 116, 111, 32, 109, 111, 114, 101, 32, 116, 104, 97, 110, 32, 37, 100]⟩, .slice (some ⟨blk, 0, none⟩) 1 1] w fun e w' =>
      e = .returned (.iface 54 (.pointer (some ⟨w.heap.size, 0, none⟩))) ∧ Below w.heap.size w w' := by
  have hF' : ∀ i name reading k range, w.tape i (.extern (word name reading k) range) = F name reading k := hF
  go_enter Ybaf.func11, Ybaf.ntmps11
  go_wp2
  go_ret
  exact ⟨rfl, ((Below.refl _ _).alloc (Nat.le_refl _) _).drew⟩
theorem errorf_less (F : Interp) (x : Int) (blk : Nat) (w : World) (hF : F.answers w.tape) (hc : w.cell? ⟨blk, 0, none⟩ = some (.iface 2 (.int .i64 x))) :
    Calls Ybaf.prog 11 #[.string ⟨#[116, 104, 101, 32, 118, 97, 108, 117, 101, 32, 97, 100, 100, 115, 32, 117, 112, 32, 116, 111, 32, 108, 101, 115, 115, 32, 116, 104, 97, 110, 32, 37, 100]⟩, .slice (some ⟨blk, 0, none⟩) 1 1] w fun e w' =>
      e = .returned (.iface 54 (.pointer (some ⟨w.heap.size, 0, none⟩))) ∧ Below w.heap.size w w' := by
  have hF' : ∀ i name reading k range, w.tape i (.extern (word name reading k) range) = F name reading k := hF
  go_enter Ybaf.func11, Ybaf.ntmps11
  go_wp2
  go_ret
  exact ⟨rfl, ((Below.refl _ _).alloc (Nat.le_refl _) _).drew⟩
end Go.Proofs.YbulkcgnkFmt
