import Derived.WalkKit
namespace Go.Proofs.Ybulkcgnk
open Go.RowKit

/-! ### Plain: the least number of nodes that a walk enters -/
def cost (n : Nat) (e : Nat × Nat) : Nat := if e.2 < n then 1 else 0
/-- The added edge that a step from y to x goes along. -/
def edg (fwd : Bool) (y x : Nat) : Nat × Nat := if fwd then (y, x) else (x, y)
def Stp (n : Nat) (E : List (Nat × Nat)) (fwd : Bool) (y x w : Nat) : Prop := edg fwd y x ∈ E ∧ w = cost n (edg fwd y x)
/-- A walk of m steps from v to x that costs k. -/
def RK (n : Nat) (E : List (Nat × Nat)) (fwd : Bool) (v : Nat) : Nat → Nat → Nat → Prop
  | 0, x, k => x = v ∧ k = 0
  | m + 1, x, k => ∃ y k' w, RK n E fwd v m y k' ∧ Stp n E fwd y x w ∧ k = k' + w
def Rch (n : Nat) (E : List (Nat × Nat)) (fwd : Bool) (v x k : Nat) : Prop := ∃ m, RK n E fwd v m x k

structure IsDist (n p : Nat) (E : List (Nat × Nat)) (fwd : Bool) (v : Nat) (r : Nat → Int) : Prop where
  low : ∀ x, x < p → -1 ≤ r x
  start : r v = 0
  closed : ∀ y x w, Stp n E fwd y x w → 0 ≤ r y → 0 ≤ r x ∧ r x ≤ r y + w
  att : ∀ x, x < p → 0 ≤ r x → Rch n E fwd v x (r x).toNat

section
variable {n p : Nat} {E : List (Nat × Nat)} {fwd : Bool} {v : Nat} {r s : Nat → Int}

theorem rch_start : Rch n E fwd v v 0 := ⟨0, rfl, rfl⟩
theorem Rch.step {y x w k : Nat} (h : Rch n E fwd v y k) (hs : Stp n E fwd y x w) : Rch n E fwd v x (k + w) := by
  obtain ⟨m, hm⟩ := h
  exact ⟨m + 1, y, k, w, hm, hs, rfl⟩
theorem IsDist.bound (h : IsDist n p E fwd v r) : ∀ m x k, RK n E fwd v m x k → 0 ≤ r x ∧ r x ≤ k
  | 0, x, k, hr => by
    obtain ⟨rfl, rfl⟩ := hr
    rw [h.start]; exact ⟨by omega, by omega⟩
  | m + 1, x, k, hr => by
    obtain ⟨y, k', w, hy, hs, rfl⟩ := hr
    obtain ⟨h1, h2⟩ := h.bound m y k' hy
    obtain ⟨h3, h4⟩ := h.closed y x w hs h1
    exact ⟨h3, by omega⟩
theorem IsDist.le (h : IsDist n p E fwd v r) {x k : Nat} (hr : Rch n E fwd v x k) : 0 ≤ r x ∧ r x ≤ k := by
  obtain ⟨m, hm⟩ := hr
  exact h.bound m x k hm
theorem IsDist.unique (h : IsDist n p E fwd v r) (k : IsDist n p E fwd v s) {x : Nat} (hx : x < p) : r x = s x := by
  have a1 := h.low x hx
  have a2 := k.low x hx
  by_cases hr : 0 ≤ r x
  · have b1 := k.le (h.att x hx hr)
    have b2 := h.le (k.att x hx b1.1)
    omega
  · by_cases hs : 0 ≤ s x
    · have b2 := h.le (k.att x hx hs)
      omega
    · omega

/-! ### Forth and back -/
theorem stp_turn {y x w : Nat} (h : Stp n E true y x w) : Stp n E false x y w := h
theorem stp_turn' {y x w : Nat} (h : Stp n E false y x w) : Stp n E true x y w := h
theorem rk_pre {a b w : Nat} (hs : Stp n E fwd a b w) : ∀ m x k, RK n E fwd b m x k → RK n E fwd a (m + 1) x (w + k)
  | 0, x, k, h => by
    obtain ⟨rfl, rfl⟩ := h
    exact ⟨a, 0, w, ⟨rfl, rfl⟩, hs, by omega⟩
  | m + 1, x, k, h => by
    obtain ⟨y, k', w', hy, hs', rfl⟩ := h
    exact ⟨y, w + k', w', rk_pre hs m y k' hy, hs', by omega⟩
theorem rk_turn : ∀ m x k, RK n E true v m x k → RK n E false x m v k
  | 0, x, k, h => by
    obtain ⟨rfl, rfl⟩ := h
    exact ⟨rfl, rfl⟩
  | m + 1, x, k, h => by
    obtain ⟨y, k', w, hy, hs, rfl⟩ := h
    have := rk_pre (stp_turn hs) m v k' (rk_turn m y k' hy)
    rwa [Nat.add_comm w k'] at this
theorem rk_turn' : ∀ m x k, RK n E false v m x k → RK n E true x m v k
  | 0, x, k, h => by
    obtain ⟨rfl, rfl⟩ := h
    exact ⟨rfl, rfl⟩
  | m + 1, x, k, h => by
    obtain ⟨y, k', w, hy, hs, rfl⟩ := h
    have := rk_pre (stp_turn' hs) m v k' (rk_turn' m y k' hy)
    rwa [Nat.add_comm w k'] at this

/-- The law 'Dual'. -/
theorem dual {u : Nat} (h : IsDist n p E true v r) (k : IsDist n p E false u s) (hv : v < p) (hu : u < p) : s v = r u := by
  have a1 := h.low u hu
  have a2 := k.low v hv
  by_cases hr : 0 ≤ r u
  · obtain ⟨m, hm⟩ := h.att u hu hr
    have b1 := k.le ⟨m, rk_turn m u _ hm⟩
    obtain ⟨m', hm'⟩ := k.att v hv b1.1
    have b2 := h.le ⟨m', rk_turn' m' v _ hm'⟩
    omega
  · by_cases hs : 0 ≤ s v
    · obtain ⟨m', hm'⟩ := k.att v hv hs
      have b2 := h.le ⟨m', rk_turn' m' v _ hm'⟩
      omega
    · omega
end

/-! ### Counting -/
/-- How many of the first p points lie outside 0 .. d. -/
def outN (r : Nat → Int) (d : Int) : Nat → Nat
  | 0 => 0
  | p + 1 => outN r d p + if 0 ≤ r p ∧ r p ≤ d then 0 else 1
/-- .. have no distance yet. -/
def negN (r : Nat → Int) : Nat → Nat
  | 0 => 0
  | p + 1 => negN r p + if 0 ≤ r p then 0 else 1
def updI (r : Nat → Int) (x : Nat) (c : Int) : Nat → Int := fun z => if z = x then c else r z
theorem updI_same (r : Nat → Int) (x : Nat) (c : Int) : updI r x c x = c := by simp [updI]
theorem updI_other (r : Nat → Int) {x z : Nat} (c : Int) (h : z ≠ x) : updI r x c z = r z := by simp [updI, h]

theorem outN_le (r : Nat → Int) (d : Int) : ∀ p, outN r d p ≤ p
  | 0 => Nat.le_refl _
  | p + 1 => by
    have := outN_le r d p
    simp only [outN]
    split <;> omega
theorem negN_le (r : Nat → Int) : ∀ p, negN r p ≤ p
  | 0 => Nat.le_refl _
  | p + 1 => by
    have := negN_le r p
    simp only [negN]
    split <;> omega
theorem outN_far (r : Nat → Int) (d c : Int) (x : Nat) : ∀ p, p ≤ x → outN (updI r x c) d p = outN r d p
  | 0, _ => rfl
  | p + 1, h => by
    simp only [outN, outN_far r d c x p (by omega)]
    rw [updI_other r c (by omega)]
theorem negN_far (r : Nat → Int) (c : Int) (x : Nat) : ∀ p, p ≤ x → negN (updI r x c) p = negN r p
  | 0, _ => rfl
  | p + 1, h => by
    simp only [negN, negN_far r c x p (by omega)]
    rw [updI_other r c (by omega)]
/-- A point comes in. -/
theorem outN_in (r : Nat → Int) (d c : Int) (x : Nat) (hc : 0 ≤ c ∧ c ≤ d) (hx : ¬ (0 ≤ r x ∧ r x ≤ d)) : ∀ p, x < p → outN (updI r x c) d p + 1 = outN r d p
  | 0, h => by omega
  | p + 1, h => by
    simp only [outN]
    by_cases e : p = x
    · subst e
      rw [outN_far r d c p p (Nat.le_refl _), updI_same, if_pos hc, if_neg hx]
    · have := outN_in r d c x hc hx p (by omega)
      rw [updI_other r c e]
      omega
/-- A point stays out. -/
theorem outN_out (r : Nat → Int) (d c : Int) (x : Nat) (hc : ¬ (0 ≤ c ∧ c ≤ d)) (hx : ¬ (0 ≤ r x ∧ r x ≤ d)) : ∀ p, outN (updI r x c) d p = outN r d p
  | 0 => rfl
  | p + 1 => by
    simp only [outN, outN_out r d c x hc hx p]
    by_cases e : p = x
    · subst e
      rw [updI_same, if_neg hc, if_neg hx]
    · rw [updI_other r c e]
theorem negN_in (r : Nat → Int) (c : Int) (x : Nat) (hc : 0 ≤ c) (hx : ¬ 0 ≤ r x) : ∀ p, x < p → negN (updI r x c) p + 1 = negN r p
  | 0, h => by omega
  | p + 1, h => by
    simp only [negN]
    by_cases e : p = x
    · subst e
      rw [negN_far r c p p (Nat.le_refl _), updI_same, if_pos hc, if_neg hx]
    · have := negN_in r c x hc hx p (by omega)
      rw [updI_other r c e]
      omega
theorem negN_pos (r : Nat → Int) (c : Int) (x : Nat) (hc : 0 ≤ c) (hx : 0 ≤ r x) : ∀ p, negN (updI r x c) p = negN r p
  | 0 => rfl
  | p + 1 => by
    simp only [negN, negN_pos r c x hc hx p]
    by_cases e : p = x
    · subst e
      rw [updI_same, if_pos hc, if_pos hx]
    · rw [updI_other r c e]
end Go.Proofs.Ybulkcgnk
