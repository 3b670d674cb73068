
import Derived.Test.YbulkcglgDown
namespace Go.Proofs.Ybulkcglg
open Go.RowKit HeapLaw

theorem down_empty (w : World) (H G cap : Nat) (hH : w.rowIs H 30 2 (heapCells cmpF G 0 cap)) :
    Calls Yba.prog 9 #[.pointer (some ⟨H, 0, none⟩), .int .i64 0] w fun e w' => e = .returned (.tuple #[]) ∧ w' = w := by
  have h1 : w.cell? ⟨H, 1, none⟩ = some (.slice (some ⟨G, 0, none⟩) 0 cap) := hH.cell (i := 1) (by omega)
  clear hH
  go_enter Yba.func9, Yba.ntmps9
  go_wp2
  refine wp_loop_once ?_
  go_wp2
  refine bodyPost_ret (results_none rfl _ _ _) rfl ?_
  exact ⟨rfl, rfl⟩

theorem hp_half (f : Nat → Int × Int) (n : Nat) : Hp f n (n / 2) := fun x h1 hx hs => by omega

set_option maxHeartbeats 400000 in
theorem init_any (w : World) (H G n cap N : Nat) (f : Nat → Int × Int) (hcap : n ≤ N) (hc0 : N ≤ 1048576) (hGH : G ≠ H)
    (hH : w.rowIs H 30 2 (heapCells cmpF G n cap)) (hG : Prs w G 27 N f) :
    Calls Yba.prog 8 #[.pointer (some ⟨H, 0, none⟩)] w fun e w' => e = .returned (.tuple #[]) ∧ ∃ g, w'.rowIs H 30 2 (heapCells cmpF G n cap) ∧ Prs w' G 27 N g ∧
      Touch [G] w w' ∧ Hp g n 0 ∧ (lst n g).Perm (lst n f) := by
  have h1 : w.cell? ⟨H, 1, none⟩ = some (.slice (some ⟨G, 0, none⟩) n cap) := hH.cell (i := 1) (by omega)
  have D0 : Hid (w.rowIs H 30 2 (heapCells cmpF G n cap) ∧ Prs w G 27 N f) := ⟨hH, hG⟩
  clear hH hG
  go_enter Yba.func8, Yba.ntmps8
  go_wp2
  go_loopw [2] (fun i wr => ∃ s g, s ≤ n / 2 ∧ i = .int .i64 ((s : Int) - 1) ∧ wr.rowIs H 30 2 (heapCells cmpF G n cap) ∧ Prs wr G 27 N g ∧ Touch [G] w wr ∧ Hp g n s ∧ (lst n g).Perm (lst n f)) (fun i _ => (intOf i + 1).toNat)
  case atStart => exact ⟨n / 2, f, Nat.le_refl _, by go_num, D0.out.1, D0.out.2, Touch.refl _ _, hp_half f n, List.Perm.refl _⟩
  case round =>
    obtain ⟨s, g, hs, rfl, r1, r2, r3, r4, r5⟩ := hrel
    clear D0
    cases s with
    | zero =>
      have e1 : decide ((0 : Int) ≤ ((0 : Nat) : Int) - 1) = false := by decide
      go_wp2
      go_end0
      exact ⟨rfl, g, r1, r2, r3, r4, r5⟩
    | succ s =>
      have e0 : ((s + 1 : Nat) : Int) - 1 = (s : Int) := by omega
      have e1 : (0 : Int) ≤ (s : Int) := by omega
      rw [e0]
      clear e0
      go_wp2_with (go_at_call 9; refine (down_any _ H G n cap N s g (by omega) hcap hc0 hGH r1 r2 r4).mono ?_; rintro e w' ⟨rfl, g', q1, q2, q3, q4, q5⟩)
      go_roundw
      case rel => exact ⟨s, g', by omega, by go_num, q1, q2, r3.trans q3, q4, q5.trans r5⟩
      case measure => simp [intOf]
end Go.Proofs.Ybulkcglg
