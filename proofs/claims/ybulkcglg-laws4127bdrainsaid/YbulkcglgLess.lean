import Derived.Test.YbulkcglgPop
import Derived.Test.YbulkcglgHeapLaw
import Derived.Laws.EntriesVeiled
import Derived.Deep.CutRange
namespace Go.Proofs.Ybulkcglg
open Go.RowKit HeapLaw

def cmpv (a b : Int) : Int := if a < b then -1 else if b < a then 1 else 0

theorem cmp_any (a b : Int) (w : World) : Calls Yba.prog 7 #[.int .i64 a, .int .i64 b] w fun e w' => e = .returned (.int .i64 (cmpv a b)) ∧ w' = w := by
  unfold cmpv
  by_cases h1 : a < b
  · rw [if_pos h1]
    go_enter Yba.func7, Yba.ntmps7
    go_wp2
    go_ret
    exact ⟨rfl, rfl⟩
  · rw [if_neg h1]
    by_cases h2 : b < a
    · rw [if_pos h2]
      go_enter Yba.func7, Yba.ntmps7
      go_wp2
      go_ret
      exact ⟨rfl, rfl⟩
    · rw [if_neg h2]
      go_enter Yba.func7, Yba.ntmps7
      go_wp2
      go_ret
      exact ⟨rfl, rfl⟩

def cmpF : Value := .func (.func 7) #[] #[]

set_option maxHeartbeats 400000 in
theorem less_any (w : World) (H G n cap N i j : Nat) (f : Nat → Int × Int) (hi : i < n) (hj : j < n) (hcap : n ≤ N) (_hc0 : N ≤ 1048576)
    (hH : w.rowIs H 30 2 (heapCells cmpF G n cap)) (hG : Prs w G 27 N f) :
    Calls Yba.prog 12 #[.pointer (some ⟨H, 0, none⟩), .int .i64 (i : Int), .int .i64 (j : Int)] w fun e w' => e = .returned (.bool (lessB (f i) (f j))) ∧ ∃ m, w' = w.drewN m := by
  have h0 : w.cell? ⟨H, 0, none⟩ = some (.func (.func 7) #[] #[]) := hH.cell (i := 0) (by omega)
  have h1 : w.cell? ⟨H, 1, none⟩ = some (.slice (some ⟨G, 0, none⟩) n cap) := hH.cell (i := 1) (by omega)
  have a0 := hG.fst (j := i) (by omega)
  have a1 := hG.snd (j := i) (by omega)
  have b0 := hG.fst (j := j) (by omega)
  have b1 := hG.snd (j := j) (by omega)
  have i0 : (0 : Int) ≤ (i : Int) := by omega
  have i1 : (i : Int) < (n : Int) := by omega
  have j0 : (0 : Int) ≤ (j : Int) := by omega
  have j1 : (j : Int) < (n : Int) := by omega
  clear hH hG
  by_cases e : (f i).1 = (f j).1
  · have hc : cmpv (f i).1 (f j).1 = 0 := by simp [cmpv, e]
    have hl : lessB (f i) (f j) = decide ((f i).2 < (f j).2) := by
      unfold lessB
      rw [e]
      simp
    have hd : (cmpv (f i).1 (f j).1 != 0) = false := by simp [hc]
    rw [hl]
    clear hl hc e
    go_enter Yba.func12, Yba.ntmps12
    go_wp2
    go_quiet ((go_at_call 7; exact Calls.quiet_of_same (cmp_any _ _ _)))
    go_wp2
    go_quiet (fail)
    go_wp2
    go_ret
    exact ⟨rfl, _, World.drewN_drewN _ _ _⟩
  · have hd : (cmpv (f i).1 (f j).1 != 0) = true := by
      simp only [cmpv, bne_iff_ne]
      split
      · decide
      · split
        · decide
        · omega
    have hl : lessB (f i) (f j) = decide (cmpv (f i).1 (f j).1 < 0) := by
      unfold lessB cmpv
      by_cases h : (f i).1 < (f j).1
      · simp [h]
      · have h2 : (f j).1 < (f i).1 := by omega
        simp [h, h2, e]
    rw [hl]
    clear hl e
    go_enter Yba.func12, Yba.ntmps12
    go_wp2
    go_quiet ((go_at_call 7; exact Calls.quiet_of_same (cmp_any _ _ _)))
    go_wp2
    go_ret
    exact ⟨rfl, _, rfl⟩

theorem less_at (w : World) (H G n cap N i j : Nat) (ai aj : Int) (f : Nat → Int × Int) (ei : ai = (i : Int)) (ej : aj = (j : Int)) (hi : i < n) (hj : j < n) (hcap : n ≤ N) (hc0 : N ≤ 1048576)
    (hH : w.rowIs H 30 2 (heapCells cmpF G n cap)) (hG : Prs w G 27 N f) :
    Calls Yba.prog 12 #[.pointer (some ⟨H, 0, none⟩), .int .i64 ai, .int .i64 aj] w fun e w' => e = .returned (.bool (lessB (f i) (f j))) ∧ ∃ m, w' = w.drewN m := by
  subst ei
  subst ej
  exact less_any w H G n cap N i j f hi hj hcap hc0 hH hG

/-- What down's round leaves. -/
structure DownAt (w : World) (H G n cap N s : Nat) (f : Nat → Int × Int) (c : Nat) (g : Nat → Int × Int) (wr : World) : Prop where
  hd : wr.rowIs H 30 2 (heapCells cmpF G n cap)
  row : Prs wr G 27 N g
  touch : Touch [G] w wr
  ok : Ok g n s c
  up : Up g n s c
  perm : (lst n g).Perm (lst n f)

theorem DownAt.drewN {w : World} {H G n cap N s : Nat} {f : Nat → Int × Int} {c : Nat} {g : Nat → Int × Int} {wr : World} (h : DownAt w H G n cap N s f c g wr) (k : Nat) : DownAt w H G n cap N s f c g (wr.drewN k) :=
  ⟨h.hd, h.row, h.touch.drewN k, h.ok, h.up, h.perm⟩

end Go.Proofs.Ybulkcglg
