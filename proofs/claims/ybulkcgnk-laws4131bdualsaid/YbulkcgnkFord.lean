import Derived.Test.YbulkcgnkBfs
namespace Go.Proofs.Ybulkcgnk
open Go.RowKit

/-! ### Plain: the model (Bellman-Ford), held against a D that is known to be the distance -/
/-- Where an added edge leads from, and to, in the search's direction. -/
def esrc (fwd : Bool) (e : Nat × Nat) : Nat := if fwd then e.1 else e.2
def edst (fwd : Bool) (e : Nat × Nat) : Nat := if fwd then e.2 else e.1
theorem edg_of (fwd : Bool) (e : Nat × Nat) : edg fwd (esrc fwd e) (edst fwd e) = e := by cases fwd <;> rfl
theorem esrc_edg (fwd : Bool) (y x : Nat) : esrc fwd (edg fwd y x) = y := by cases fwd <;> rfl
theorem edst_edg (fwd : Bool) (y x : Nat) : edst fwd (edg fwd y x) = x := by cases fwd <;> rfl

/-- How many of the first p points do not bear their distance. -/
def offN (r D : Nat → Int) : Nat → Nat
  | 0 => 0
  | p + 1 => offN r D p + if r p = D p then 0 else 1
theorem offN_le (r D : Nat → Int) : ∀ p, offN r D p ≤ p
  | 0 => Nat.le_refl _
  | p + 1 => by
    have := offN_le r D p
    simp only [offN]
    split <;> omega
theorem offN_mono {r s D : Nat → Int} : ∀ p, (∀ x, x < p → r x = D x → s x = D x) → offN s D p ≤ offN r D p
  | 0, _ => Nat.le_refl _
  | p + 1, h => by
    have ih := offN_mono p (fun x hx => h x (by omega))
    simp only [offN]
    by_cases e : r p = D p
    · rw [if_pos e, if_pos (h p (by omega) e)]; exact ih
    · rw [if_neg e]
      split <;> omega
theorem offN_lt {r s D : Nat → Int} {x : Nat} (hr : r x ≠ D x) (hs : s x = D x) : ∀ p, x < p → (∀ x, x < p → r x = D x → s x = D x) → offN s D p < offN r D p
  | 0, h, _ => by omega
  | p + 1, h, hm => by
    simp only [offN]
    by_cases e : p = x
    · subst e
      have := offN_mono (r := r) (s := s) (D := D) p (fun x hx => hm x (by omega))
      rw [if_pos hs, if_neg hr]; omega
    · have ih := offN_lt hr hs p (by omega) (fun x hx => hm x (by omega))
      by_cases e1 : r p = D p
      · rw [if_pos e1, if_pos (hm p (by omega) e1)]; exact ih
      · rw [if_neg e1]
        split <;> omega
theorem offN_zero {r D : Nat → Int} : ∀ p, offN r D p = 0 → ∀ x, x < p → r x = D x
  | 0, _, x, hx => by omega
  | p + 1, h, x, hx => by
    simp only [offN] at h
    by_cases e : x = p
    · subst e
      by_cases e1 : r x = D x
      · exact e1
      · rw [if_neg e1] at h; omega
    · exact offN_zero p (by omega) x (by omega)
theorem offN_pos {r D : Nat → Int} : ∀ p, offN r D p ≠ 0 → ∃ x, x < p ∧ r x ≠ D x
  | 0, h => (h rfl).elim
  | p + 1, h => by
    by_cases e : r p = D p
    · simp only [offN] at h
      rw [if_pos e] at h
      obtain ⟨x, hx, h1⟩ := offN_pos p (by omega)
      exact ⟨x, by omega, h1⟩
    · exact ⟨p, by omega, e⟩

structure FB (n p : Nat) (E : List (Nat × Nat)) (fwd : Bool) (v : Nat) (r : Nat → Int) : Prop where
  low : ∀ x, x < p → -1 ≤ r x
  st : r v = 0
  att : ∀ x, x < p → 0 ≤ r x → Rch n E fwd v x (r x).toNat

/-- In a round that began at r0: the first i edges are done with. -/
structure FI (n p : Nat) (E : List (Nat × Nat)) (fwd : Bool) (v : Nat) (r0 : Nat → Int) (i : Nat) (ch : Bool) (r : Nat → Int) : Prop where
  b : FB n p E fwd v r
  mono : ∀ x, x < p → 0 ≤ r0 x → 0 ≤ r x ∧ r x ≤ r0 x
  done : ∀ e, e ∈ E.take i → 0 ≤ r0 (esrc fwd e) → 0 ≤ r (edst fwd e) ∧ r (edst fwd e) ≤ r0 (esrc fwd e) + cost n e
  flag : ch = false → ∀ x, x < p → r x = r0 x

section
variable {n p : Nat} {E : List (Nat × Nat)} {fwd : Bool} {v : Nat} {r r0 D : Nat → Int} {i : Nat} {ch : Bool}

theorem fb_start (hv : v < p) : FB n p E fwd v (updI (fun _ => -1) v 0) := by
  have h := (bi_start (n := n) (E := E) (fwd := fwd) hv).b
  exact ⟨fun x hx => (h.bnd x hx).1, h.st, h.att⟩
theorem FB.round (h : FB n p E fwd v r) : FI n p E fwd v r 0 false r := ⟨h, fun _ _ h0 => ⟨h0, Int.le_refl _⟩, fun e he => by simp at he, fun _ _ _ => rfl⟩

theorem take_snocE {l : List (Nat × Nat)} {j : Nat} {x : Nat × Nat} (h : l[j]? = some x) : l.take (j + 1) = l.take j ++ [x] := by
  rw [List.take_add_one, h]; rfl

/-- The edge's tail has no distance. -/
theorem FI.dead (h : FI n p E fwd v r0 i ch r) {e : Nat × Nat} (he : E[i]? = some e) (hE : ∀ e, e ∈ E → e.1 < p ∧ e.2 < p) (h0 : ¬ 0 ≤ r (esrc fwd e)) : FI n p E fwd v r0 (i + 1) ch r := by
  have hl := hE e (List.mem_of_getElem? he)
  have hs : esrc fwd e < p := by cases fwd <;> simp [esrc] <;> omega
  refine { h with done := fun e' he' hr => ?_ }
  rw [take_snocE he] at he'
  rcases List.mem_append.1 he' with he' | he'
  · exact h.done e' he' hr
  · simp at he'; subst he'
    exact (h0 (h.mono _ hs hr).1).elim
/-- It is no shorter this way. -/
theorem FI.stay (h : FI n p E fwd v r0 i ch r) {e : Nat × Nat} (he : E[i]? = some e) (hE : ∀ e, e ∈ E → e.1 < p ∧ e.2 < p) (h1 : 0 ≤ r (edst fwd e)) (h2 : ¬ r (esrc fwd e) + cost n e < r (edst fwd e)) : FI n p E fwd v r0 (i + 1) ch r := by
  have hl := hE e (List.mem_of_getElem? he)
  have hs : esrc fwd e < p := by cases fwd <;> simp [esrc] <;> omega
  refine { h with done := fun e' he' hr => ?_ }
  rw [take_snocE he] at he'
  rcases List.mem_append.1 he' with he' | he'
  · exact h.done e' he' hr
  · simp at he'; subst he'
    have := h.mono _ hs hr
    exact ⟨h1, by omega⟩
/-- It is. -/
theorem FI.turn (h : FI n p E fwd v r0 i ch r) {e : Nat × Nat} (he : E[i]? = some e) (hE : ∀ e, e ∈ E → e.1 < p ∧ e.2 < p) (h0 : 0 ≤ r (esrc fwd e)) (h1 : ¬ 0 ≤ r (edst fwd e) ∨ r (esrc fwd e) + cost n e < r (edst fwd e)) :
    FI n p E fwd v r0 (i + 1) true (updI r (edst fwd e) (r (esrc fwd e) + cost n e)) := by
  have hm := List.mem_of_getElem? he
  have hl := hE e hm
  have hs : esrc fwd e < p := by cases fwd <;> simp [esrc] <;> omega
  have hd : edst fwd e < p := by cases fwd <;> simp [edst] <;> omega
  have hb := h.b
  have hc : (0 : Int) ≤ r (esrc fwd e) + cost n e := by omega
  have hvd : v ≠ edst fwd e := by rintro hv; rw [← hv, hb.st] at h1; omega
  refine ⟨⟨fun x hx => ?_, ?_, fun x hx hx0 => ?_⟩, fun x hx hr => ?_, fun e' he' hr => ?_, fun hf => by cases hf⟩
  · by_cases ex : x = edst fwd e
    · subst ex; rw [updI_same]; omega
    · rw [updI_other r _ ex]; exact hb.low x hx
  · rw [updI_other r _ hvd]; exact hb.st
  · by_cases ex : x = edst fwd e
    · subst ex
      rw [updI_same]
      have hst : Stp n E fwd (esrc fwd e) (edst fwd e) (cost n e) := by
        constructor
        · rw [edg_of]; exact hm
        · rw [edg_of]
      have := (hb.att _ hs h0).step hst
      have e2 : (r (esrc fwd e) + (cost n e : Int)).toNat = (r (esrc fwd e)).toNat + cost n e := by omega
      rw [e2]; exact this
    · rw [updI_other r _ ex] at hx0 ⊢; exact hb.att x hx hx0
  · have hmx := h.mono x hx hr
    by_cases ex : x = edst fwd e
    · subst ex; rw [updI_same]
      refine ⟨hc, ?_⟩
      rcases h1 with h1 | h1 <;> omega
    · rw [updI_other r _ ex]; exact hmx
  · have keep : ∀ e', 0 ≤ r (edst fwd e') ∧ r (edst fwd e') ≤ r0 (esrc fwd e') + cost n e' → 0 ≤ updI r (edst fwd e) (r (esrc fwd e) + cost n e) (edst fwd e') ∧ updI r (edst fwd e) (r (esrc fwd e) + cost n e) (edst fwd e') ≤ r0 (esrc fwd e') + cost n e' := fun e' hk => by
      by_cases ex : edst fwd e' = edst fwd e
      · rw [ex, updI_same]
        rw [ex] at hk
        refine ⟨hc, ?_⟩
        rcases h1 with h1 | h1 <;> omega
      · rw [updI_other r _ ex]; exact hk
    rw [take_snocE he] at he'
    rcases List.mem_append.1 he' with he' | he'
    · exact keep e' (h.done e' he' hr)
    · simp at he'; subst he'
      rw [updI_same]
      have := h.mono _ hs hr
      exact ⟨hc, by omega⟩

/-- A round that turned nothing. -/
theorem FI.quiet (h : FI n p E fwd v r0 i false r) (hE : ∀ e, e ∈ E → e.1 < p ∧ e.2 < p) (hi : E.length ≤ i) : IsDist n p E fwd v r := by
  refine ⟨h.b.low, h.b.st, fun y x w hs h0 => ?_, h.b.att⟩
  have hy : y < p := by have := hE _ hs.1; cases fwd <;> simp [edg] at this <;> omega
  have := h.done (edg fwd y x) (by rw [List.take_of_length_le hi]; exact hs.1)
  rw [esrc_edg, edst_edg, ← h.flag rfl y hy, ← hs.2] at this
  exact this h0

theorem FB.ge (h : FB n p E fwd v r) (hD : IsDist n p E fwd v D) {x : Nat} (hx : x < p) (h0 : 0 ≤ r x) : 0 ≤ D x ∧ D x ≤ r x := by
  have := hD.le (h.att x hx h0)
  omega
/-- There is an edge over which a round makes good one more point. -/
theorem unset_edge (h : FB n p E fwd v r) (hD : IsDist n p E fwd v D) (hE : ∀ e, e ∈ E → e.1 < p ∧ e.2 < p) : ∀ m x, x < p → RK n E fwd v m x (D x).toNat → 0 ≤ D x → r x ≠ D x →
    ∃ y x w, x < p ∧ y < p ∧ Stp n E fwd y x w ∧ 0 ≤ D y ∧ r y = D y ∧ r x ≠ D x ∧ D x = D y + w
  | 0, x, hx, hk, h0, hr => by
    obtain ⟨rfl, hk⟩ := hk
    rw [h.st, hD.start] at hr
    exact (hr rfl).elim
  | m + 1, x, hx, hk, h0, hr => by
    obtain ⟨y, k', w, hy, hs, hkk⟩ := hk
    have hyp : y < p := by have := hE _ hs.1; cases fwd <;> simp [edg] at this <;> omega
    have b1 := hD.bound m y k' hy
    have b2 := hD.closed y x w hs b1.1
    have e1 : D y = k' := by omega
    by_cases hry : r y = D y
    · exact ⟨y, x, w, hx, hyp, hs, b1.1, hry, hr, by omega⟩
    · have e2 : (D y).toNat = k' := by omega
      exact unset_edge h hD hE m y hyp (by rw [e2]; exact hy) b1.1 hry

/-- A whole round. -/
theorem FI.gain (h0 : FB n p E fwd v r0) (h : FI n p E fwd v r0 i ch r) (hD : IsDist n p E fwd v D) (hE : ∀ e, e ∈ E → e.1 < p ∧ e.2 < p) (hi : E.length ≤ i) : offN r D p ≤ offN r0 D p - 1 := by
  have keep : ∀ x, x < p → r0 x = D x → r x = D x := fun x hx e => by
    by_cases hx0 : 0 ≤ r0 x
    · have a := h.mono x hx hx0
      have b := h.b.ge hD hx a.1
      omega
    · by_cases hx1 : 0 ≤ r x
      · have b := h.b.ge hD hx hx1
        omega
      · have := h.b.low x hx
        have := h0.low x hx
        omega
  by_cases hz : offN r0 D p = 0
  · have := offN_mono p keep
    omega
  · obtain ⟨x, hx, hne⟩ := offN_pos p hz
    have hDx : 0 ≤ D x := by
      by_cases hd : 0 ≤ D x
      · exact hd
      · by_cases hr : 0 ≤ r0 x
        · have := h0.ge hD hx hr
          omega
        · have := hD.low x hx
          have := h0.low x hx
          omega
    obtain ⟨m, hm⟩ := hD.att x hx hDx
    obtain ⟨y, z, w, hz1, hy1, hs, hy0, hry, hrz, hDz⟩ := unset_edge h0 hD hE m x hx hm hDx hne
    have hd := h.done (edg fwd y z) (by rw [List.take_of_length_le hi]; exact hs.1)
    rw [esrc_edg, edst_edg, ← hs.2] at hd
    have hd := hd (by rw [hry]; exact hy0)
    have hb := h.b.ge hD hz1 hd.1
    have := offN_lt hrz (show r z = D z by omega) p hz1 keep
    omega
end
end Go.Proofs.Ybulkcgnk
