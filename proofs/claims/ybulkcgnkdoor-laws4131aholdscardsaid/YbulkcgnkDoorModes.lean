
import Derived.Test.YbulkcgnkDoorRows
import Derived.Test.YbulkcgnkDoorMem
import Derived.WalkSpells
import Derived.WalkLawsBesides
namespace Go.Proofs.YbulkcgnkDoor
open Go.RowKit

/-- The kinds that take a lock, by mode. -/
def tab (j : Nat) : Int := ([0, 5, 6, 7, 8, 9, 11, 12, 13] : List Int).getD j 0
/-- The mode of a kind. -/
def mode (k : Nat) : Nat := ([0, 0, 0, 0, 0, 1, 2, 3, 4, 5, 0, 6, 7, 8] : List Nat).getD k 0

def KindsAt (w : World) : Prop := ∀ j, j < 9 → w.cell? ⟨0, j, none⟩ = some (.int .i64 (tab j))

theorem tab_mode : ∀ k : Nat, k < 14 → ∀ j, j < 9 → 1 ≤ j → (tab j == (k : Int)) = (decide (mode k = j)) := by decide
theorem mode_lt : ∀ k, k < 14 → mode k < 9 := by decide

set_option maxHeartbeats 400000 in
theorem modeOf_any (w : World) (k : Nat) (hk : k < 14) (hK : KindsAt w) :
    Calls Ybad.prog 6 #[.int .i64 (k : Int)] w fun e w' => e = .returned (.int .u8 (mode k : Int)) ∧ w' = w := by
  have hm := mode_lt k hk
  go_enter Ybad.func6, Ybad.ntmps6
  go_wp2
  go_loop [3] (fun s => ∃ m : Nat, 1 ≤ m ∧ m ≤ 9 ∧ s = .int .u8 (m : Int) ∧ (mode k = 0 ∨ m ≤ mode k)) (fun s => 9 - (intOf s).toNat)
  case atStart => exact ⟨1, by omega, by omega, rfl, by omega⟩
  case round =>
    obtain ⟨m, hm1, hm9, rfl, hmm⟩ := hrel
    by_cases hlt : m < 9
    · have c0 := hK m hlt
      have i0 : (0 : Int) ≤ (m : Int) := by omega
      have i1 : (m : Int) < 9 := by omega
      have ht := tab_mode k hk m hlt hm1
      by_cases he : mode k = m
      · have ht' : (tab m == (k : Int)) = true := by rw [ht]; simp [he]
        have HE : Hid (mode k = m) := he
        clear ht he hK hmm hm
        go_wp2
        go_ret
        rw [HE.out]
        exact ⟨rfl, rfl⟩
      · have ht' : (tab m == (k : Int)) = false := by rw [ht]; simp [he]
        clear ht hK
        have hmm' : mode k = 0 ∨ m + 1 ≤ mode k := by omega
        clear hmm he
        go_wp2
        go_round
        case rel => exact ⟨m + 1, by omega, by omega, by go_num, hmm'⟩
        case measure => simp [intOf]; omega
    · have e : m = 9 := by omega
      subst e
      have hz : mode k = 0 := by omega
      have HE : Hid (mode k = 0) := hz
      clear hz hmm hm hK
      go_wp2
      go_ret
      rw [HE.out]
      exact ⟨rfl, rfl⟩

set_option maxHeartbeats 1000000 in
theorem zzmode_any (w : World) (k : Nat) (hk : k < 14) :
    Calls Ybad.prog 5 #[.int .i64 (k : Int)] w fun e w' => e = .returned (.int .u64 (mode k : Int)) ∧ w' = w := by
  have h : k = 0 ∨ k = 1 ∨ k = 2 ∨ k = 3 ∨ k = 4 ∨ k = 5 ∨ k = 6 ∨ k = 7 ∨ k = 8 ∨ k = 9 ∨ k = 10 ∨ k = 11 ∨ k = 12 ∨ k = 13 := by omega
  clear hk
  rcases h with rfl | rfl | rfl | rfl | rfl | rfl | rfl | rfl | rfl | rfl | rfl | rfl | rfl | rfl <;> (go_enter Ybad.func5, Ybad.ntmps5; go_wp2; go_ret; exact ⟨rfl, rfl⟩)

/-- A set of modes, one added. -/
def orv (s : Int) (m : Nat) : Int := bits BinOp.or IntKind.u16 s (IntKind.u16.wrap (2 ^ m))

theorem with_any (w : World) (s : Int) (m : Nat) (hm : m < 9) :
    Calls Ybad.prog 7 #[.int .u16 s, .int .u8 (m : Int)] w fun e w' => e = .returned (.int .u16 (orv s m)) ∧ w' = w := by
  have h0 : (0 : Int) ≤ (m : Int) := by omega
  have h1 : (m : Int) < 9 := by omega
  go_enter Ybad.func7, Ybad.ntmps7
  go_wp2
  go_ret
  exact ⟨rfl, rfl⟩
end Go.Proofs.YbulkcgnkDoor
