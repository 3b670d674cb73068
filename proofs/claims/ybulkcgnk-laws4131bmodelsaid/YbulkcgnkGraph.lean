import Derived.Test.YbulkcgnkRow
import Derived.Deep.AppendLies
namespace Go.Proofs.Ybulkcgnk
open Go.RowKit

def updN {α : Type} (f : Nat → α) (k : Nat) (v : α) : Nat → α := fun x => if x = k then v else f x
theorem updN_same {α : Type} (f : Nat → α) (k : Nat) (v : α) : updN f k v k = v := by simp [updN]
theorem updN_other {α : Type} (f : Nat → α) {k x : Nat} (v : α) (h : x ≠ k) : updN f k v x = f x := by simp [updN, h]
/-- A list of points, as the cells of a row. -/
def vals (l : List Nat) : List Value := l.map fun (x : Nat) => .int .i64 (x : Int)
theorem vals_snoc (l : List Nat) (x : Nat) : vals (l ++ [x]) = vals l ++ [.int .i64 (x : Int)] := by simp [vals]
theorem vals_get {l : List Nat} {j u : Nat} (h : l[j]? = some u) : (vals l)[j]? = some (.int .i64 (u : Int)) := by simp [vals, h]
theorem vals_len (l : List Nat) : (vals l).length = l.length := by simp [vals]

/-- The graph in memory. Tags: 0, 1 the two tables; 2, 3 the ends of the edges; 4 + 2x + s the s-th side's row of the point x. -/
structure GS (B G : Nat) (W : World) (n : Nat) (P : Nat → Nat) (V : Nat → Value) (A : Nat → List Nat) : Prop where
  top : ∀ s, s < 2 → W.ownsRow B 25 1 (V s) (P s) ((List.range (P s)).map fun x => V (4 + 2 * x + s))
  row : ∀ t, 2 ≤ t → W.ownsRow B 3 1 (V t) (A t).length (vals (A t))
  inj : ∀ s t g, (V s).ownBlock = some g → (V t).ownBlock = some g → s = t
  g : W.heap[G]? = some (.cells #[.int .i64 (n : Int), V 0, V 1] 39 (0, 0))
  far : ∀ s x, s < 2 → P s ≤ x → V (4 + 2 * x + s) = .slice none 0 0
  base : B ≤ G

section
variable {B G n : Nat} {W W' : World} {P : Nat → Nat} {V : Nat → Value} {A : Nat → List Nat}

theorem owns_same {e n : Nat} {v : Value} {xs : List Value} (h : W.ownsRow B e 1 v n xs) (hs : ∀ g, v.ownBlock = some g → W'.heap[g]? = W.heap[g]?) : W'.ownsRow B e 1 v n xs := by
  refine ⟨h.1, ?_⟩
  rcases h.2 with hn | ⟨g, cp, cur, rfl, hb, hg, rest⟩
  · exact .inl hn
  · exact .inr ⟨g, cp, cur, rfl, hb, (hs g rfl).trans hg, rest⟩
theorem owns_set {e n : Nat} {v : Value} {xs : List Value} (h : W.ownsRow B e 1 v n xs) {a : Addr} (ha : v.ownBlock ≠ some a.block) (u : Value) : (W.setCell a u).ownsRow B e 1 v n xs :=
  owns_same h fun g hg => Below.heap_setCell _ _ _ _ (by rintro rfl; exact ha hg)

theorem GS.frame (h : GS B G W n P V A) (hf : ∀ k, B ≤ k → k < W.heap.size → W'.heap[k]? = W.heap[k]?) : GS B G W' n P V A :=
  ⟨fun s hs => owns_same (h.top s hs) fun g e => hf g ((h.top s hs).lt g e).1 ((h.top s hs).lt g e).2,
   fun t ht => owns_same (h.row t ht) fun g e => hf g ((h.row t ht).lt g e).1 ((h.row t ht).lt g e).2,
   h.inj, (hf G h.base (Array.getElem?_eq_some_iff.1 h.g).1).trans h.g, h.far, h.base⟩
theorem GS.alloc (h : GS B G W n P V A) (o : Obj) : GS B G (W.alloc o) n P V A := h.frame fun _ _ hk => Below.heap_alloc _ _ _ hk
theorem GS.drewN (h : GS B G W n P V A) (k : Nat) : GS B G (W.drewN k) n P V A := h.frame fun _ _ _ => rfl
theorem GS.glt (h : GS B G W n P V A) : G < W.heap.size := (Array.getElem?_eq_some_iff.1 h.g).1
theorem GS.below (h : GS B G W n P V A) {C : Nat} (hb : Below C W W') (hC : W.heap.size ≤ C) : GS B G W' n P V A := h.frame fun k _ hk => hb.block k (by omega)
/-- A tag's row lies among the blocks. -/
theorem GS.lt (h : GS B G W n P V A) (t g : Nat) (hg : (V t).ownBlock = some g) : B ≤ g ∧ g < W.heap.size := by
  by_cases ht : t < 2
  · exact (h.top t ht).lt g hg
  · exact (h.row t (by omega)).lt g hg
/-- .. and is not the graph's own block. -/
theorem owns_type {e n : Nat} {v : Value} {xs : List Value} {g : Nat} (h : W.ownsRow B e 1 v n xs) (hg : v.ownBlock = some g) : ∃ c, W.heap[g]? = some (.cells c e (0, 0)) := by
  rcases h.2 with ⟨rfl, _⟩ | ⟨g', cp, cur, rfl, hb, hg', _⟩
  · cases hg
  · simp [Value.ownBlock] at hg; subst hg; exact ⟨_, hg'⟩
theorem GS.ng (h : GS B G W n P V A) (t : Nat) : (V t).ownBlock ≠ some G := by
  intro e
  by_cases ht : t < 2
  · obtain ⟨c, hc⟩ := owns_type (h.top t ht) e
    rw [h.g] at hc; simp at hc
  · obtain ⟨c, hc⟩ := owns_type (h.row t (by omega)) e
    rw [h.g] at hc; simp at hc
theorem GS.apart (h : GS B G W n P V A) {s t : Nat} (hne : s ≠ t) : (V s).ownBlock = none ∨ (V s).ownBlock ≠ (V t).ownBlock := by
  cases hv : (V s).ownBlock with
  | none => exact .inl rfl
  | some b => exact .inr fun e => hne (h.inj s t b hv e.symm)
theorem GS.injU (h : GS B G W n P V A) {t g H : Nat} {v : Value} (hv : v.ownBlock = some g) (hat : (V t).ownBlock = some g ∨ g = H) (hH : W.heap.size = H) : ∀ a b k, (updN V t v a).ownBlock = some k → (updN V t v b).ownBlock = some k → a = b := by
  have key : ∀ a, a ≠ t → (V a).ownBlock ≠ some g := by
    intro a hne e
    rcases hat with hat | hat
    · exact hne (h.inj a t g e hat)
    · have := (h.lt a g e).2; omega
  intro a b k ha hb
  by_cases ea : a = t
  · by_cases eb : b = t
    · rw [ea, eb]
    · rw [ea, updN_same, hv] at ha
      rw [updN_other _ _ eb] at hb
      simp at ha; subst ha
      exact (key b eb hb).elim
  · by_cases eb : b = t
    · rw [eb, updN_same, hv] at hb
      rw [updN_other _ _ ea] at ha
      simp at hb; subst hb
      exact (key a ea ha).elim
    · rw [updN_other _ _ ea] at ha
      rw [updN_other _ _ eb] at hb
      exact h.inj a b k ha hb
theorem GS.gkeep (h : GS B G W n P V A) {t : Nat} (hg : W.grownBy W' (V t).ownBlock) : W'.heap[G]? = some (.cells #[.int .i64 (n : Int), V 0, V 1] 39 (0, 0)) :=
  (hg.block G h.glt (fun e => h.ng t e.symm)).trans h.g

/-- A point more, on the side s. -/
theorem GS.junction (h : GS B G W n P V A) {s g cap H : Nat} (hs : s < 2) (hH : W.heap.size = H)
    (ho : W'.ownsRow B 25 1 (.slice (some ⟨g, 0, none⟩) (P s + 1) cap) (P s + 1) (((List.range (P s)).map fun x => V (4 + 2 * x + s)) ++ [.slice none 0 0])) (hg : W.grownBy W' (V s).ownBlock) (hat : (V s).ownBlock = some g ∨ g = H) :
    GS B G (W'.setCell ⟨G, 1 + s, none⟩ (.slice (some ⟨g, 0, none⟩) (P s + 1) cap)) n (updN P s (P s + 1)) (updN V s (.slice (some ⟨g, 0, none⟩) (P s + 1) cap)) A := by
  have hgG : g ≠ G := by
    rintro rfl
    rcases hat with e | e
    · exact h.ng s e
    · have := h.glt; omega
  refine ⟨fun s' hs' => ?_, fun t ht => ?_, h.injU rfl hat hH, ?_, fun s' x hs' hx => ?_, h.base⟩
  · have e4 : ∀ x, updN V s (.slice (some ⟨g, 0, none⟩) (P s + 1) cap) (4 + 2 * x + s') = V (4 + 2 * x + s') := fun x => updN_other _ _ (by omega)
    by_cases e : s' = s
    · subst e
      rw [updN_same, updN_same]
      refine owns_set ?_ (by simp [Value.ownBlock]; exact hgG) _
      have : ((List.range (P s' + 1)).map fun x => updN V s' (.slice (some ⟨g, 0, none⟩) (P s' + 1) cap) (4 + 2 * x + s')) = ((List.range (P s')).map fun x => V (4 + 2 * x + s')) ++ [.slice none 0 0] := by
        rw [List.range_succ, List.map_append]
        simp only [e4, List.map_cons, List.map_nil]
        rw [h.far s' (P s') hs (Nat.le_refl _)]
      rw [this]; exact ho
    · rw [updN_other _ _ e, updN_other _ _ e]
      simp only [e4]
      exact owns_set ((h.top s' hs').kept hg (h.apart e)) (h.ng s') _
  · rw [updN_other _ _ (show t ≠ s by omega)]
    exact owns_set ((h.row t ht).kept hg (h.apart (by omega))) (h.ng t) _
  · have := heap_setCell_same W' G (1 + s) _ 39 (.slice (some ⟨g, 0, none⟩) (P s + 1) cap) (h.gkeep hg)
    rw [this]
    have hs2 : s = 0 ∨ s = 1 := by omega
    rcases hs2 with rfl | rfl
    · simp [updN]
    · simp [updN]
  · rw [updN_other _ _ (by omega)]
    by_cases e : s' = s
    · subst e; rw [updN_same] at hx; exact h.far s' x hs' (by omega)
    · rw [updN_other _ _ e] at hx; exact h.far s' x hs' hx

/-- An edge's end more, in the row of the point x on the side s. -/
theorem GS.edge (h : GS B G W n P V A) {s x y g cap H gs cs : Nat} (hs : s < 2) (hx : x < P s) (hV : V s = .slice (some ⟨gs, 0, none⟩) (P s) cs) (hH : W.heap.size = H)
    (ho : W'.ownsRow B 3 1 (.slice (some ⟨g, 0, none⟩) ((A (4 + 2 * x + s)).length + 1) cap) ((A (4 + 2 * x + s)).length + 1) (vals (A (4 + 2 * x + s)) ++ [.int .i64 (y : Int)])) (hg : W.grownBy W' (V (4 + 2 * x + s)).ownBlock) (hat : (V (4 + 2 * x + s)).ownBlock = some g ∨ g = H) :
    GS B G (W'.setCell ⟨gs, x, none⟩ (.slice (some ⟨g, 0, none⟩) ((A (4 + 2 * x + s)).length + 1) cap)) n P (updN V (4 + 2 * x + s) (.slice (some ⟨g, 0, none⟩) ((A (4 + 2 * x + s)).length + 1) cap)) (updN A (4 + 2 * x + s) (A (4 + 2 * x + s) ++ [y])) := by
  obtain ⟨t, ht⟩ : ∃ t, t = 4 + 2 * x + s := ⟨_, rfl⟩
  rw [← ht] at ho hg hat ⊢
  have hSb : (V s).ownBlock = some gs := by rw [hV]; rfl
  have gslt := (h.lt s gs hSb).2
  have hggs : g ≠ gs := by
    rintro rfl
    rcases hat with e | e
    · have := h.inj t s g e hSb; omega
    · omega
  have hGgs : G ≠ gs := by rintro rfl; exact h.ng s hSb
  refine ⟨fun s' hs' => ?_, fun t' ht' => ?_, h.injU rfl hat hH, ?_, fun s' x' hs' hx' => ?_, h.base⟩
  · rw [updN_other _ _ (show s' ≠ t by omega)]
    by_cases e : s' = s
    · subst e
      have k := (h.top s' hs).kept hg (h.apart (show s' ≠ t by omega))
      rw [hV] at k ⊢
      have := (k.stored x (.slice (some ⟨g, 0, none⟩) ((A t).length + 1) cap)).1
      have e2 : ((List.range (P s')).map fun x => updN V t (.slice (some ⟨g, 0, none⟩) ((A t).length + 1) cap) (4 + 2 * x + s')) = ((List.range (P s')).map fun x => V (4 + 2 * x + s')).set x (.slice (some ⟨g, 0, none⟩) ((A t).length + 1) cap) := by
        apply List.ext_getElem?
        intro i
        rw [List.getElem?_set]
        by_cases hi : i < P s'
        · by_cases ei : x = i
          · subst ei; simp [hi, ht, updN]
          · simp [hi, ei, updN, ht]; omega
        · simp [hi, show ¬ x = i by omega]
      rw [e2]; exact this
    · have e4 : ∀ x', updN V t (.slice (some ⟨g, 0, none⟩) ((A t).length + 1) cap) (4 + 2 * x' + s') = V (4 + 2 * x' + s') := fun x' => updN_other _ _ (by omega)
      simp only [e4]
      exact owns_set ((h.top s' hs').kept hg (h.apart (by omega))) (fun e' => e (h.inj s' s gs e' hSb)) _
  · by_cases e : t' = t
    · subst e
      rw [updN_same, updN_same]
      refine owns_set ?_ (by simp [Value.ownBlock]; exact hggs) _
      rw [vals_snoc]; simpa using ho
    · rw [updN_other _ _ e, updN_other _ _ e]
      exact owns_set ((h.row t' ht').kept hg (h.apart e)) (fun e' => by have := h.inj t' s gs e' hSb; omega) _
  · rw [Below.heap_setCell _ _ _ _ hGgs, h.gkeep hg, updN_other _ _ (show 0 ≠ t by omega), updN_other _ _ (show 1 ≠ t by omega)]
  · have hne : 4 + 2 * x' + s' ≠ t := by
      intro e
      have e1 : x' = x := by omega
      have e2 : s' = s := by omega
      subst e1; subst e2; omega
    rw [updN_other _ _ hne]
    exact h.far s' x' hs' hx'

/-- An end more, in the rows of the ends. -/
theorem GS.push (h : GS B G W n P V A) {t y g cap H : Nat} (ht : t = 2 ∨ t = 3) (hH : W.heap.size = H)
    (ho : W'.ownsRow B 3 1 (.slice (some ⟨g, 0, none⟩) ((A t).length + 1) cap) ((A t).length + 1) (vals (A t) ++ [.int .i64 (y : Int)])) (hg : W.grownBy W' (V t).ownBlock) (hat : (V t).ownBlock = some g ∨ g = H) :
    GS B G W' n P (updN V t (.slice (some ⟨g, 0, none⟩) ((A t).length + 1) cap)) (updN A t (A t ++ [y])) := by
  have e4 : ∀ x s, updN V t (.slice (some ⟨g, 0, none⟩) ((A t).length + 1) cap) (4 + 2 * x + s) = V (4 + 2 * x + s) := fun x s => updN_other _ _ (by omega)
  refine ⟨fun s' hs' => ?_, fun t' ht' => ?_, h.injU rfl hat hH, ?_, fun s' x' hs' hx' => ?_, h.base⟩
  · rw [updN_other _ _ (show s' ≠ t by omega)]
    simp only [e4]
    exact (h.top s' hs').kept hg (h.apart (by omega))
  · by_cases e : t' = t
    · subst e
      rw [updN_same, updN_same, vals_snoc]
      simpa using ho
    · rw [updN_other _ _ e, updN_other _ _ e]
      exact (h.row t' ht').kept hg (h.apart e)
  · rw [h.gkeep hg, updN_other _ _ (show 0 ≠ t by omega), updN_other _ _ (show 1 ≠ t by omega)]
  · rw [e4]; exact h.far s' x' hs' hx'

theorem GS.congrP {P' : Nat → Nat} (h : GS B G W n P V A) (e : ∀ s, s < 2 → P s = P' s) : GS B G W n P' V A :=
  ⟨fun s hs => by rw [← e s hs]; exact h.top s hs, h.row, h.inj, h.g, fun s x hs hx => h.far s x hs (by rw [e s hs]; exact hx), h.base⟩

/-! ### Reading -/
theorem GS.topForm (h : GS B G W n P V A) {s : Nat} (hs : s < 2) (hp : 0 < P s) : ∃ g c, V s = .slice (some ⟨g, 0, none⟩) (P s) c ∧ B ≤ g ∧ g < W.heap.size ∧ (∀ x, x < P s → W.cell? ⟨g, x, none⟩ = some (V (4 + 2 * x + s))) ∧ ∀ x, W.frozen? ⟨g, x, none⟩ = false := by
  obtain ⟨g, c, hv, hb, hlt⟩ := (h.top s hs).form hp
  refine ⟨g, c, hv, hb, hlt, fun x hx => ?_, fun x => ?_⟩
  · have := h.top s hs
    rw [hv] at this
    rw [this.cellAt x (by omega)]
    simp [hx]
  · have := h.top s hs
    rw [hv] at this
    exact this.frozenAt x
theorem owns_form {e n : Nat} {v : Value} {xs : List Value} (h : W.ownsRow B e 1 v n xs) : ∃ a c, v = .slice a n c ∧ n ≤ c ∧ ∀ (j : Nat) u, xs[j]? = some u → ∃ g, a = some ⟨g, 0, none⟩ ∧ B ≤ g ∧ g < W.heap.size ∧ W.cell? ⟨g, j, none⟩ = some u := by
  rcases h.2 with ⟨rfl, rfl⟩ | ⟨g, cp, cur, rfl, hb, hg, hc, _⟩
  · refine ⟨none, 0, rfl, Nat.le_refl _, fun j u hu => ?_⟩
    have := h.1
    have hx : xs = [] := List.eq_nil_of_length_eq_zero (by simpa using h.1)
    subst hx; cases hu
  · refine ⟨_, cp, rfl, hc, fun j u hu => ⟨g, rfl, hb, (Array.getElem?_eq_some_iff.1 hg).1, ?_⟩⟩
    rw [h.cellAt j (by have := (List.getElem?_eq_some_iff.1 hu).1; rw [h.1] at this; exact this)]
    exact hu
end
end Go.Proofs.Ybulkcgnk
