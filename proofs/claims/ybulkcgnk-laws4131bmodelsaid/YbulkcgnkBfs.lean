import Derived.Test.YbulkcgnkDist
namespace Go.Proofs.Ybulkcgnk
open Go.RowKit

/-! ### Plain: the search by layers -/
/-- The point that a step from y to x enters: the head of the added edge. -/
def ent (fwd : Bool) (y x : Nat) : Nat := if fwd then x else y
theorem cost_ent (n : Nat) (fwd : Bool) (y x : Nat) : cost n (edg fwd y x) = if ent fwd y x < n then 1 else 0 := by
  cases fwd <;> simp [cost, edg, ent]

/-- All steps out of y are settled. -/
def CA (n : Nat) (E : List (Nat × Nat)) (fwd : Bool) (r : Nat → Int) (y : Nat) : Prop := ∀ x w, Stp n E fwd y x w → 0 ≤ r x ∧ r x ≤ r y + w

/-- The graph, as the search reads it. -/
structure Adj (p : Nat) (E : List (Nat × Nat)) (fwd : Bool) (A : Nat → List Nat) : Prop where
  mem : ∀ y, y < p → ∀ x, x ∈ A y ↔ edg fwd y x ∈ E
  lt : ∀ e, e ∈ E → e.1 < p ∧ e.2 < p

structure BB (n p : Nat) (E : List (Nat × Nat)) (fwd : Bool) (v M d : Nat) (Ly Nx : List Nat) (r : Nat → Int) : Prop where
  bnd : ∀ x, x < p → -1 ≤ r x ∧ r x ≤ (d : Int) + 1
  st : r v = 0
  att : ∀ x, x < p → 0 ≤ r x → Rch n E fwd v x (r x).toNat
  cl : ∀ y, y < p → 0 ≤ r y → r y < d → CA n E fwd r y
  nx : ∀ x, x < p → r x = (d : Int) + 1 → x ∈ Nx
  ly : ∀ x, x ∈ Ly → x < p
  ny : ∀ x, x ∈ Nx → x < p
  lenL : Ly.length + outN r d p ≤ 2 * p + 1
  lenN : Nx.length + negN r p ≤ M
  top : M ≤ p

/-- The first i entries of the layer are done with. -/
structure BI (n p : Nat) (E : List (Nat × Nat)) (fwd : Bool) (v M d : Nat) (Ly : List Nat) (i : Nat) (Nx : List Nat) (r : Nat → Int) : Prop where
  b : BB n p E fwd v M d Ly Nx r
  cd : ∀ y, y < p → r y = d → CA n E fwd r y ∨ y ∈ Ly.drop i

/-- .. and of the next entry, y, the first j steps. -/
structure BJ (n p : Nat) (E : List (Nat × Nat)) (fwd : Bool) (A : Nat → List Nat) (v M d : Nat) (Ly : List Nat) (i y j : Nat) (Nx : List Nat) (r : Nat → Int) : Prop where
  b : BB n p E fwd v M d Ly Nx r
  yp : y < p
  ry : r y = d
  cd : ∀ z, z < p → r z = d → z = y ∨ CA n E fwd r z ∨ z ∈ Ly.drop (i + 1)
  part : ∀ x, x ∈ (A y).take j → 0 ≤ r x ∧ r x ≤ (d : Int) + cost n (edg fwd y x)
  il : i < Ly.length

section
variable {n p : Nat} {E : List (Nat × Nat)} {fwd : Bool} {A : Nat → List Nat} {v M d : Nat} {Ly : List Nat} {i y j : Nat} {Nx : List Nat} {r : Nat → Int}

theorem bi_start (hv : v < p) : BI n p E fwd v p 0 [v] 0 [] (updI (fun _ => -1) v 0) := by
  have hr : ∀ x, x ≠ v → updI (fun _ => -1) v 0 x = -1 := fun x hx => updI_other _ _ hx
  have hlow : ∀ x, updI (fun _ => -1) v 0 x = 0 ∧ x = v ∨ updI (fun _ => -1) v 0 x = -1 := fun x => by
    by_cases e : x = v
    · subst e; exact .inl ⟨updI_same _ _ _, rfl⟩
    · exact .inr (hr x e)
  refine ⟨⟨fun x _ => ?_, updI_same _ _ _, fun x _ h0 => ?_, fun y _ h0 h1 => ?_, fun x _ h => ?_, fun x hx => ?_, fun x hx => by simp at hx, ?_, ?_, Nat.le_refl _⟩, fun y _ h => ?_⟩
  · rcases hlow x with ⟨h, _⟩ | h <;> rw [h] <;> omega
  · rcases hlow x with ⟨h, rfl⟩ | h
    · rw [h]; exact rch_start
    · rw [h] at h0; omega
  · simp at h1; omega
  · rcases hlow x with ⟨h', _⟩ | h' <;> rw [h'] at h <;> omega
  · simp at hx; omega
  · have := outN_le (updI (fun _ => -1) v 0) (0 : Nat) p
    simp only [List.length_singleton]; omega
  · have := negN_le (updI (fun _ => -1) v 0) p
    simp only [List.length_nil]; omega
  · rcases hlow y with ⟨_, rfl⟩ | h'
    · exact .inr (by simp)
    · rw [h'] at h; omega

/-- A stale entry. -/
theorem BI.skip (h : BI n p E fwd v M d Ly i Nx r) (hy : Ly[i]? = some y) (hr : r y ≠ d) : BI n p E fwd v M d Ly (i + 1) Nx r := by
  refine ⟨h.b, fun z hz hd => ?_⟩
  rcases h.cd z hz hd with hc | hc
  · exact .inl hc
  · have hi := (List.getElem?_eq_some_iff.1 hy).1
    rw [List.drop_eq_getElem_cons hi] at hc
    rcases List.mem_cons.1 hc with rfl | hc
    · have := (List.getElem?_eq_some_iff.1 hy).2
      rw [this] at hd
      exact (hr hd).elim
    · exact .inr hc
theorem BI.enter (h : BI n p E fwd v M d Ly i Nx r) (hy : Ly[i]? = some y) (hr : r y = d) : BJ n p E fwd A v M d Ly i y 0 Nx r := by
  have hi := (List.getElem?_eq_some_iff.1 hy).1
  refine ⟨h.b, h.b.ly y (List.mem_of_getElem? hy), hr, fun z hz hd => ?_, fun x hx => by simp at hx, hi⟩
  rcases h.cd z hz hd with hc | hc
  · exact .inr (.inl hc)
  · rw [List.drop_eq_getElem_cons hi] at hc
    rcases List.mem_cons.1 hc with rfl | hc
    · exact .inl (List.getElem?_eq_some_iff.1 hy).2
    · exact .inr (.inr hc)
theorem BJ.leave (h : BJ n p E fwd A v M d Ly i y j Nx r) (hA : Adj p E fwd A) (hj : (A y).length ≤ j) : BI n p E fwd v M d Ly (i + 1) Nx r := by
  refine ⟨h.b, fun z hz hd => ?_⟩
  rcases h.cd z hz hd with rfl | hc | hc
  · refine .inl fun x w hs => ?_
    have hx := (hA.mem z h.yp x).2 hs.1
    have := h.part x (by rwa [List.take_of_length_le hj])
    rw [hd, hs.2]
    exact this
  · exact .inl hc
  · exact .inr hc

theorem take_snoc {l : List Nat} {j x : Nat} (h : l[j]? = some x) : l.take (j + 1) = l.take j ++ [x] := by
  rw [List.take_add_one, h]; rfl

/-- Nothing is turned. -/
theorem BJ.stay (h : BJ n p E fwd A v M d Ly i y j Nx r) {x : Nat} (hx : (A y)[j]? = some x) (h0 : 0 ≤ r x) (h1 : r x ≤ (d : Int) + cost n (edg fwd y x)) : BJ n p E fwd A v M d Ly i y (j + 1) Nx r := by
  refine { h with part := fun z hz => ?_ }
  rw [take_snoc hx] at hz
  rcases List.mem_append.1 hz with hz | hz
  · exact h.part z hz
  · simp at hz; subst hz; exact ⟨h0, h1⟩

/-- What a turned distance leaves settled. -/
theorem ca_upd {z x : Nat} {c : Int} (h : CA n E fwd r z) (hzx : z ≠ x) (hc : 0 ≤ c) (hle : ¬ 0 ≤ r x ∨ c ≤ r x) : CA n E fwd (updI r x c) z := by
  intro x' w hs
  obtain ⟨h1, h2⟩ := h x' w hs
  rw [updI_other r c hzx]
  by_cases e : x' = x
  · subst e
    rw [updI_same]
    refine ⟨hc, ?_⟩
    rcases hle with hle | hle
    · exact (hle h1).elim
    · omega
  · rw [updI_other r c e]; exact ⟨h1, h2⟩

/-- Through a junction: into the layer at hand. -/
theorem BJ.layer (h : BJ n p E fwd A v M d Ly i y j Nx r) (hA : Adj p E fwd A) {x : Nat} (hx : (A y)[j]? = some x) (hc : cost n (edg fwd y x) = 0) (ho : ¬ (0 ≤ r x ∧ r x ≤ d)) :
    BJ n p E fwd A v M d (Ly ++ [x]) i y (j + 1) Nx (updI r x d) := by
  have hb := h.b
  have hed := (hA.mem y h.yp x).1 (List.mem_of_getElem? hx)
  have hxp : x < p := by have := hA.lt _ hed; cases fwd <;> simp [edg] at this <;> omega
  have hbx := hb.bnd x hxp
  have hxy : y ≠ x := by rintro rfl; rw [h.ry] at ho; omega
  have hxv : v ≠ x := by rintro rfl; rw [hb.st] at ho; omega
  have hle : ¬ 0 ≤ r x ∨ (d : Int) ≤ r x := by omega
  have hd0 : (0 : Int) ≤ (d : Int) := by omega
  refine ⟨⟨fun z hz => ?_, ?_, fun z hz h0 => ?_, fun z hz h0 h1 => ?_, fun z hz hd => ?_, fun z hz => ?_, hb.ny, ?_, ?_, hb.top⟩, h.yp, ?_, fun z hz hd => ?_, fun z hz => ?_, by simp; have := h.il; omega⟩
  · by_cases e : z = x
    · subst e; rw [updI_same]; omega
    · rw [updI_other r _ e]; exact hb.bnd z hz
  · rw [updI_other r _ hxv]; exact hb.st
  · by_cases e : z = x
    · subst e
      rw [updI_same]
      have h1 := hb.att y h.yp (by rw [h.ry]; omega)
      rw [h.ry] at h1
      have := h1.step (w := cost n (edg fwd y z)) ⟨hed, rfl⟩
      rw [hc] at this
      exact this
    · rw [updI_other r _ e] at h0 ⊢; exact hb.att z hz h0
  · by_cases e : z = x
    · subst e; rw [updI_same] at h1; omega
    · rw [updI_other r _ e] at h0 h1
      exact ca_upd (hb.cl z hz h0 h1) e hd0 hle
  · by_cases e : z = x
    · subst e; rw [updI_same] at hd; omega
    · rw [updI_other r _ e] at hd; exact hb.nx z hz hd
  · rcases List.mem_append.1 hz with hz | hz
    · exact hb.ly z hz
    · simp at hz; omega
  · have := outN_in r d d x ⟨hd0, Int.le_refl _⟩ ho p hxp
    have := hb.lenL
    simp only [List.length_append, List.length_singleton]; omega
  · have := hb.lenN
    by_cases h0 : 0 ≤ r x
    · rw [negN_pos r d x hd0 h0]; exact this
    · have := negN_in r d x hd0 h0 p hxp
      omega
  · rw [updI_other r _ hxy]; exact h.ry
  · by_cases e : z = x
    · subst e
      refine .inr (.inr ?_)
      rw [List.drop_append_of_le_length (by have := h.il; omega)]
      simp
    · rw [updI_other r _ e] at hd
      rcases h.cd z hz hd with h1 | h1 | h1
      · exact .inl h1
      · exact .inr (.inl (ca_upd h1 e hd0 hle))
      · refine .inr (.inr ?_)
        rw [List.drop_append_of_le_length (by have := h.il; omega)]
        exact List.mem_append.2 (.inl h1)
  · have stay : ∀ z, 0 ≤ r z ∧ r z ≤ (d : Int) + cost n (edg fwd y z) → 0 ≤ updI r x d z ∧ updI r x d z ≤ (d : Int) + cost n (edg fwd y z) := fun z hz => by
      by_cases e : z = x
      · subst e; rw [updI_same]; omega
      · rw [updI_other r _ e]; exact hz
    rw [take_snoc hx] at hz
    rcases List.mem_append.1 hz with hz | hz
    · exact stay z (h.part z hz)
    · simp at hz; subst hz; rw [updI_same]; omega

/-- Into a node: into the next layer. -/
theorem BJ.next (h : BJ n p E fwd A v M d Ly i y j Nx r) (hA : Adj p E fwd A) {x : Nat} (hx : (A y)[j]? = some x) (hc : cost n (edg fwd y x) = 1) (ho : ¬ 0 ≤ r x) :
    BJ n p E fwd A v M d Ly i y (j + 1) (Nx ++ [x]) (updI r x ((d : Int) + 1)) := by
  have hb := h.b
  have hed := (hA.mem y h.yp x).1 (List.mem_of_getElem? hx)
  have hxp : x < p := by have := hA.lt _ hed; cases fwd <;> simp [edg] at this <;> omega
  have hbx := hb.bnd x hxp
  have hxy : y ≠ x := by rintro rfl; rw [h.ry] at ho; omega
  have hxv : v ≠ x := by rintro rfl; rw [hb.st] at ho; omega
  have hle : ¬ 0 ≤ r x ∨ (d : Int) + 1 ≤ r x := .inl ho
  have hd0 : (0 : Int) ≤ (d : Int) + 1 := by omega
  refine ⟨⟨fun z hz => ?_, ?_, fun z hz h0 => ?_, fun z hz h0 h1 => ?_, fun z hz hd => ?_, hb.ly, fun z hz => ?_, ?_, ?_, hb.top⟩, h.yp, ?_, fun z hz hd => ?_, fun z hz => ?_, h.il⟩
  · by_cases e : z = x
    · subst e; rw [updI_same]; omega
    · rw [updI_other r _ e]; exact hb.bnd z hz
  · rw [updI_other r _ hxv]; exact hb.st
  · by_cases e : z = x
    · subst e
      rw [updI_same]
      have h1 := hb.att y h.yp (by rw [h.ry]; omega)
      rw [h.ry] at h1
      have := h1.step (w := cost n (edg fwd y z)) ⟨hed, rfl⟩
      rw [hc] at this
      have e : ((d : Int) + 1).toNat = (d : Int).toNat + 1 := by omega
      rw [e]
      exact this
    · rw [updI_other r _ e] at h0 ⊢; exact hb.att z hz h0
  · by_cases e : z = x
    · subst e; rw [updI_same] at h1; omega
    · rw [updI_other r _ e] at h0 h1
      exact ca_upd (hb.cl z hz h0 h1) e hd0 hle
  · by_cases e : z = x
    · subst e; simp
    · rw [updI_other r _ e] at hd; exact List.mem_append.2 (.inl (hb.nx z hz hd))
  · rcases List.mem_append.1 hz with hz | hz
    · exact hb.ny z hz
    · simp at hz; omega
  · rw [outN_out r d _ x (by omega) (by omega)]
    exact hb.lenL
  · have := negN_in r _ x hd0 ho p hxp
    have := hb.lenN
    simp only [List.length_append, List.length_singleton]; omega
  · rw [updI_other r _ hxy]; exact h.ry
  · by_cases e : z = x
    · subst e; rw [updI_same] at hd; omega
    · rw [updI_other r _ e] at hd
      rcases h.cd z hz hd with h1 | h1 | h1
      · exact .inl h1
      · exact .inr (.inl (ca_upd h1 e hd0 hle))
      · exact .inr (.inr h1)
  · have stay : ∀ z, 0 ≤ r z ∧ r z ≤ (d : Int) + cost n (edg fwd y z) → 0 ≤ updI r x ((d : Int) + 1) z ∧ updI r x ((d : Int) + 1) z ≤ (d : Int) + cost n (edg fwd y z) := fun z hz => by
      by_cases e : z = x
      · subst e; exact (ho hz.1).elim
      · rw [updI_other r _ e]; exact hz
    rw [take_snoc hx] at hz
    rcases List.mem_append.1 hz with hz | hz
    · exact stay z (h.part z hz)
    · simp at hz; subst hz; rw [updI_same]; omega

/-- The layer is done with. -/
theorem BI.turn (h : BI n p E fwd v M d Ly Ly.length Nx r) : BI n p E fwd v (negN r p) (d + 1) Nx 0 [] r := by
  have hb := h.b
  refine ⟨⟨fun x hx => ?_, hb.st, hb.att, fun y hy h0 h1 => ?_, fun x hx hd => ?_, hb.ny, fun x hx => by simp at hx, ?_, by simp, negN_le r p⟩, fun y hy hd => .inr ?_⟩
  · have := hb.bnd x hx
    omega
  · by_cases e : r y = d
    · rcases h.cd y hy e with hc | hc
      · exact hc
      · simp at hc
    · exact hb.cl y hy h0 (by omega)
  · have := hb.bnd x hx
    omega
  · have h1 := outN_le r ((d + 1 : Nat) : Int) p
    have h2 := hb.lenN
    have h3 := hb.top
    omega
  · rw [List.drop_zero]
    exact hb.nx y hy (by omega)

/-- No layer is left. -/
theorem BI.done (h : BI n p E fwd v M d [] 0 [] r) (hE : ∀ e, e ∈ E → e.1 < p ∧ e.2 < p) : IsDist n p E fwd v r := by
  have hb := h.b
  refine ⟨fun x hx => (hb.bnd x hx).1, hb.st, fun y x w hs h0 => ?_, hb.att⟩
  have hy : y < p := by have := hE _ hs.1; cases fwd <;> simp [edg] at this <;> omega
  have hbd := hb.bnd y hy
  have hca : CA n E fwd r y := by
    by_cases e : r y = d
    · rcases h.cd y hy e with hc | hc
      · exact hc
      · simp at hc
    · by_cases e1 : r y = (d : Int) + 1
      · have := hb.nx y hy e1
        simp at this
      · exact hb.cl y hy h0 (by omega)
  exact hca x w hs
end
end Go.Proofs.Ybulkcgnk
