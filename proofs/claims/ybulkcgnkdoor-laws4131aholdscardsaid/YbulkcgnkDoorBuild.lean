import Derived.Test.YbulkcgnkDoorOp
namespace Go.Proofs.YbulkcgnkDoor
open Go.RowKit

/-- The cells of transaction t's operations. -/
def ocells (t : Nat) (l : List (Nat × Nat)) : List Value := l.flatMap fun p => [.int .i64 (p.1 : Int), .int .i64 ((t : Int) + 1), .int .i64 (p.2 : Int)]
theorem ocells_snoc (t : Nat) (l : List (Nat × Nat)) (p : Nat × Nat) : ocells t (l ++ [p]) = ocells t l ++ [.int .i64 (p.1 : Int), .int .i64 ((t : Int) + 1), .int .i64 (p.2 : Int)] := by simp [ocells]
theorem ocells_cons (t : Nat) (l : List (Nat × Nat)) (p : Nat × Nat) : ocells t (p :: l) = .int .i64 (p.1 : Int) :: .int .i64 ((t : Int) + 1) :: .int .i64 (p.2 : Int) :: ocells t l := by simp [ocells]
theorem ocells_get (t : Nat) : ∀ (l : List (Nat × Nat)) (j : Nat) (p : Nat × Nat), l[j]? = some p → (ocells t l)[j * 3]? = some (.int .i64 (p.1 : Int)) ∧ (ocells t l)[j * 3 + 1]? = some (.int .i64 ((t : Int) + 1)) ∧ (ocells t l)[j * 3 + 2]? = some (.int .i64 (p.2 : Int))
  | [], j, p, h => by simp at h
  | x :: l, 0, p, h => by simp at h; subst h; rw [ocells_cons]; simp
  | x :: l, j + 1, p, h => by
    have := ocells_get t l j p (by simpa using h)
    rw [ocells_cons, show (j + 1) * 3 = j * 3 + 1 + 1 + 1 from by omega]
    simpa using this

/-- j steps are laid: row t of the made slice holds V t, the operations R t. -/
structure BD (w : World) (n j : Nat) (V : Nat → Value) (R : Nat → List (Nat × Nat)) (who : Nat → Option Nat) (W : World) : Prop where
  below : Below w.heap.size w W
  row : W.rowIs w.heap.size 26 n V
  own : ∀ t, t < n → W.ownsRow (w.heap.size + 1) 29 3 (V t) (R t).length (ocells t (R t))
  w1 : ∀ t, t < n → ∀ g, (V t).ownBlock = some g → who g = some t
  ok : ∀ t, t < n → ∀ p ∈ R t, p.1 < 14 ∧ p.2 < 4
  len : ∀ t, t < n → (R t).length ≤ j

section
variable {w : World} {n j : Nat} {V : Nat → Value} {R : Nat → List (Nat × Nat)} {who : Nat → Option Nat} {W : World}

theorem BD.alloc (h : BD w n j V R who W) (o : Obj) : BD w n j V R who (W.alloc o) :=
  { h with below := h.below.alloc h.below.size o, row := h.row.alloc o, own := fun t ht => (h.own t ht).alloc o }
theorem BD.drewN (h : BD w n j V R who W) (k : Nat) : BD w n j V R who (W.drewN k) :=
  { h with below := ⟨h.below.os, h.below.tape, h.below.output, h.below.size, h.below.block⟩, row := h.row, own := fun t ht => h.own t ht }
theorem bd_start (w : World) (n : Nat) : BD w n 0 (fun _ => .slice none 0 0) (fun _ => []) (fun _ => none) (w.alloc (.cells (madeCells #[.slice none 0 0] n) 26)) :=
  ⟨(Below.refl _ _).alloc (Nat.le_refl _) _, World.rowIs_made w _ n 26, fun _ _ => World.ownsRow_nil _ _ _ _, fun _ _ g h => by simp [Value.ownBlock] at h, fun _ _ p h => by simp at h, fun _ _ => by simp⟩

theorem own_slice3 {W : World} {B e n : Nat} {v : Value} {xs : List Value} (h : W.ownsRow B e 3 v n xs) : ∃ a c, v = .slice a n c := by
  rcases h.2 with ⟨e1, e2⟩ | ⟨g', cp, cur, e, _⟩
  · exact ⟨none, 0, by rw [e1, e2]⟩
  · exact ⟨_, _, e⟩

theorem ownsRow_setCell_ne {W : World} {B e s n : Nat} {v u : Value} {xs : List Value} {a : Addr} (h : W.ownsRow B e s v n xs) (ha : v.ownBlock ≠ some a.block) : (W.setCell a u).ownsRow B e s v n xs := by
  refine ⟨h.1, ?_⟩
  rcases h.2 with hn | ⟨g, cp, cur, rfl, hb, hg, rest⟩
  · exact .inl hn
  · refine .inr ⟨g, cp, cur, rfl, hb, ?_, rest⟩
    rw [Below.heap_setCell _ _ _ _ (by intro e; exact ha (by simp [Value.ownBlock, e]))]
    exact hg

/-- Behind 'txns[t] = append(txns[t], Op{..})'. -/
theorem BD.push {W1 : World} {t g cap H m k it : Nat} {o : Obj} {v : Value} (h : BD w n j V R who W) (ht : t < n) (hk : k < 14) (hit : it < 4) (hv : V t = v) (hm : (R t).length = m) (hH : (W.alloc o).drew.heap.size = H)
    (ho : W1.ownsRow (w.heap.size + 1) 29 3 (.slice (some ⟨g, 0, none⟩) (m + 1) cap) (m + 1) (ocells t (R t) ++ [.int .i64 (k : Int), .int .i64 ((t : Int) + 1), .int .i64 (it : Int)])) (hgr : (W.alloc o).drew.grownBy W1 v.ownBlock) (hat : v.ownBlock = some g ∨ g = H) :
    W1.cell? ⟨w.heap.size, t, none⟩ = some v ∧ W1.frozen? ⟨w.heap.size, t, none⟩ = false ∧
      Hid (∃ V R who, BD w n (j + 1) V R who (W1.setCell ⟨w.heap.size, t, none⟩ (.slice (some ⟨g, 0, none⟩) (m + 1) cap))) := by
  subst hv hm
  have h0 : BD w n j V R who (W.alloc o).drew := (h.alloc o).drewN 1
  have hrow1 : W1.rowIs w.heap.size 26 n V := by
    refine h0.row.of_block (hgr.block _ h0.row.lt fun e => ?_)
    have := ((h0.own t ht).lt _ e.symm).1
    omega
  have hg1 : w.heap.size + 1 ≤ g := (ho.lt g (by simp [Value.ownBlock])).1
  refine ⟨hrow1.cell ht, hrow1.frozen t, fun x => if x = t then .slice (some ⟨g, 0, none⟩) ((R t).length + 1) cap else V x, fun x => if x = t then R t ++ [(k, it)] else R x, updN who g (some t), ?_⟩
  refine ⟨?_, hrow1.set t _, fun x hx => ?_, fun x hx b hb => ?_, fun x hx p hp => ?_, fun x hx => ?_⟩
  · refine Below.setCell (p := ⟨w.heap.size, t, none⟩) ?_ (by simp) _
    exact h0.below.grown hgr (Nat.le_of_lt h0.row.lt) (fun k e => by have := ((h0.own t ht).lt k e).1; omega)
  · by_cases e : x = t
    · subst e
      simp only [if_pos]
      refine ownsRow_setCell_ne ?_ (by simp [Value.ownBlock]; omega)
      rw [ocells_snoc]
      simpa using ho
    · simp only [if_neg e]
      refine ownsRow_setCell_ne ((h0.own x hx).kept hgr ?_) (fun e' => by have := ((h0.own x hx).lt _ e').1; simp only [] at this; omega)
      cases hb : (V x).ownBlock with
      | none => exact .inl rfl
      | some b =>
        refine .inr fun e' => ?_
        have a1 := h0.w1 x hx b hb
        rw [h0.w1 t ht b e'.symm] at a1
        simp at a1
        exact e a1.symm
  · by_cases e : x = t
    · subst e
      simp [Value.ownBlock] at hb
      subst hb
      rw [updN_same]
    · simp only [if_neg e] at hb
      have a1 := h0.w1 x hx b hb
      have hlt := ((h0.own x hx).lt b hb).2
      have hne : b ≠ g := by
        rintro rfl
        rcases hat with hat | hat
        · rw [h0.w1 t ht b hat] at a1; simp at a1; exact e a1.symm
        · omega
      rw [updN_other _ _ hne]; exact a1
  · by_cases e : x = t
    · subst e
      simp only [if_pos, List.mem_append, List.mem_singleton] at hp
      rcases hp with hp | rfl
      · exact h0.ok x hx p hp
      · exact ⟨hk, hit⟩
    · simp only [if_neg e] at hp
      exact h0.ok x hx p hp
  · have := h0.len x hx
    by_cases e : x = t
    · subst e
      simp; omega
    · simp only [if_neg e]; omega

/-- What newLegal asks. -/
theorem BD.tx (h : BD w n j V R who W) (hn : n ≤ 4) (hj : j ≤ 1024) : TX W n (some ⟨w.heap.size, 0, none⟩) (fun t => (R t).length) (fun t q => ((R t)[q]?).getD (0, 0)) := by
  refine ⟨fun i hi => ?_, fun i q hi hq => ?_, hn, fun i hi => Nat.le_trans (h.len i hi) hj⟩
  · obtain ⟨a, c, hv⟩ := own_slice3 (h.own i hi)
    refine ⟨w.heap.size, a, c, rfl, (h.row.cell hi).trans (by rw [hv]), fun q hq => ?_⟩
    have ho := h.own i hi
    obtain ⟨g, cp, e, _, _⟩ := ho.form (by omega)
    rw [hv] at e
    simp at e
    obtain ⟨p, hp⟩ : ∃ p, (R i)[q]? = some p := ⟨_, List.getElem?_eq_getElem hq⟩
    obtain ⟨c0, c1, c2⟩ := ocells_get i (R i) q p hp
    rw [hv, e.1] at ho
    refine ⟨g, (i : Int) + 1, e.1, ?_, ?_, ?_⟩
    · rw [ho.cellAt _ (by omega), c0]; simp [hp]
    · rw [ho.cellAt _ (by omega), c1]
    · rw [ho.cellAt _ (by omega), c2]; simp [hp]
  · obtain ⟨p, hp⟩ : ∃ p, (R i)[q]? = some p := ⟨_, List.getElem?_eq_getElem hq⟩
    simp only [hp, Option.getD_some]
    exact h.ok i hi p (List.mem_of_getElem? hp)
end
end Go.Proofs.YbulkcgnkDoor
