import Derived.Test.YbulkcglgLeast
namespace Go.Proofs.Ybulkcglg
open Go.RowKit

/-- A block whose first N elements are pairs of integers: element j lies in cells 2j, 2j+1. Of what lies behind them nothing is said. -/
def Prs (w : World) (G : Nat) (t : TypeId) (N : Nat) (f : Nat → Int × Int) : Prop :=
  ∃ c : Array Value, w.heap[G]? = some (.cells c t (0, 0)) ∧ N * 2 ≤ c.size ∧ ∀ i, i < N * 2 → c[i]? = some (pr f i)

section
variable {w w' : World} {G : Nat} {t : TypeId} {N : Nat} {f g : Nat → Int × Int}

theorem Prs.cellAt (h : Prs w G t N f) {i : Nat} (hi : i < N * 2) : w.cell? ⟨G, i, none⟩ = some (pr f i) := by
  obtain ⟨c, hb, _, hc⟩ := h
  simp [World.cell?, hb, hc i hi]
theorem Prs.fst (h : Prs w G t N f) {j : Nat} (hj : j < N) : w.cell? ⟨G, j * 2, none⟩ = some (.int .i64 (f j).1) := by
  rw [h.cellAt (by omega), pr_even]
theorem Prs.snd (h : Prs w G t N f) {j : Nat} (hj : j < N) : w.cell? ⟨G, j * 2 + 1, none⟩ = some (.int .i64 (f j).2) := by
  rw [h.cellAt (by omega), pr_odd]
theorem Prs.frozen (h : Prs w G t N f) (i : Nat) : w.frozen? ⟨G, i, none⟩ = false := by
  obtain ⟨c, hb, _, _⟩ := h
  simp [World.frozen?, hb]
theorem Prs.lt (h : Prs w G t N f) : G < w.heap.size := by
  obtain ⟨c, hb, _, _⟩ := h
  exact (Array.getElem?_eq_some_iff.1 hb).1
theorem Prs.congr (h : Prs w G t N f) (e : ∀ j, j < N → f j = g j) : Prs w G t N g := by
  obtain ⟨c, hb, hn, hc⟩ := h
  refine ⟨c, hb, hn, fun i hi => ?_⟩
  rw [hc i hi]
  unfold pr
  rw [e (i / 2) (by omega)]
theorem Prs.of_block (h : Prs w G t N f) (e : w'.heap[G]? = w.heap[G]?) : Prs w' G t N f := by
  obtain ⟨c, hb, hn, hc⟩ := h
  exact ⟨c, e.trans hb, hn, hc⟩
theorem Prs.drew (h : Prs w G t N f) : Prs w.drew G t N f := h
theorem Prs.setOther (h : Prs w G t N f) {a : Addr} (ha : G ≠ a.block) (v : Value) : Prs (w.setCell a v) G t N f := h.of_block (Below.heap_setCell _ _ _ _ ha)
theorem Prs.alloc (h : Prs w G t N f) (o : Obj) : Prs (w.alloc o) G t N f := h.of_block (Below.heap_alloc _ _ _ h.lt)
theorem Prs.set (h : Prs w G t N f) (j : Nat) (a b : Int) :
    Prs ((w.setCell ⟨G, j * 2, none⟩ (.int .i64 a)).setCell ⟨G, j * 2 + 1, none⟩ (.int .i64 b)) G t N (fun i => if i = j then (a, b) else f i) := by
  obtain ⟨c, hb, hn, hc⟩ := h
  refine ⟨(c.setIfInBounds (j * 2) (.int .i64 a)).setIfInBounds (j * 2 + 1) (.int .i64 b), ?_, by simpa using hn, fun i hi => ?_⟩
  · simp [World.setCell, Array.getElem?_modify, hb]
  · rw [Array.getElem?_setIfInBounds, Array.getElem?_setIfInBounds]
    simp only [Array.size_setIfInBounds]
    by_cases e1 : j * 2 + 1 = i
    · subst e1
      rw [if_pos rfl, if_pos (by omega)]
      simp [pr_odd]
    · rw [if_neg e1]
      by_cases e0 : j * 2 = i
      · subst e0
        rw [if_pos rfl, if_pos (by omega)]
        simp [pr_even]
      · rw [if_neg e0, hc i hi]
        have e2 : ¬ i / 2 = j := by omega
        simp only [pr, if_neg e2]
theorem Touch.prs {S : List Nat} {b : Nat} (h : Touch S w w') (hr : Prs w b t N f) (hn : b ∉ S) : Prs w' b t N f := hr.of_block (h.block b hr.lt hn)
end
/-- The world behind removeLeast, written out as the walk writes it. -/
theorem pop_world {w : World} {H G m cap N : Nat} {c : Value} {f : Nat → Int × Int} (hGH : G ≠ H) (hH : w.rowIs H 30 2 (heapCells c G (m + 1) cap))
    (hw1 : Prs ((w.setCell ⟨G, 0, none⟩ (.int .i64 (f m).1)).setCell ⟨G, 1, none⟩ (.int .i64 (f m).2)) G 27 N (fun i => if i = 0 then f m else f i)) :
    ((((((w.setCell ⟨G, 0, none⟩ (.int .i64 (f m).1)).setCell ⟨G, 1, none⟩ (.int .i64 (f m).2)).setCell ⟨G, m * 2, none⟩ (.int .i64 0)).setCell ⟨G, m * 2 + 1, none⟩ (.int .i64 0)).setCell ⟨H, 1, none⟩ (.slice (some ⟨G, 0, none⟩) m cap)).drew).rowIs H 30 2 (heapCells c G m cap) ∧
    Prs (((((w.setCell ⟨G, 0, none⟩ (.int .i64 (f m).1)).setCell ⟨G, 1, none⟩ (.int .i64 (f m).2)).setCell ⟨G, m * 2, none⟩ (.int .i64 0)).setCell ⟨G, m * 2 + 1, none⟩ (.int .i64 0)).setCell ⟨H, 1, none⟩ (.slice (some ⟨G, 0, none⟩) m cap)).drew G 27 N (dropped m f) ∧
    Touch [G, H] w (((((w.setCell ⟨G, 0, none⟩ (.int .i64 (f m).1)).setCell ⟨G, 1, none⟩ (.int .i64 (f m).2)).setCell ⟨G, m * 2, none⟩ (.int .i64 0)).setCell ⟨G, m * 2 + 1, none⟩ (.int .i64 0)).setCell ⟨H, 1, none⟩ (.slice (some ⟨G, 0, none⟩) m cap)).drew := by
  refine ⟨?_, ?_, ?_⟩
  · have k1 := (((hH.setOther (a := ⟨G, 0, none⟩) (Ne.symm hGH) (.int .i64 (f m).1)).setOther (a := ⟨G, 1, none⟩) (Ne.symm hGH) (.int .i64 (f m).2)).setOther (a := ⟨G, m * 2, none⟩) (Ne.symm hGH) (.int .i64 0)).setOther (a := ⟨G, m * 2 + 1, none⟩) (Ne.symm hGH) (.int .i64 0)
    refine World.rowIs.congr (World.rowIs.drew (k1.set 1 (.slice (some ⟨G, 0, none⟩) m cap))) fun i hi => ?_
    match i, hi with
    | 0, _ => rfl
    | 1, _ => rfl
  · exact (Prs.drew (Prs.setOther (hw1.set m 0 0) (a := ⟨H, 1, none⟩) hGH _)).congr fun j _ => rfl
  · exact ((((((Touch.refl [G, H] w).setCell (a := ⟨G, 0, none⟩) (by simp) _).setCell (a := ⟨G, 1, none⟩) (by simp) _).setCell (a := ⟨G, m * 2, none⟩) (by simp) _).setCell (a := ⟨G, m * 2 + 1, none⟩) (by simp) _).setCell (a := ⟨H, 1, none⟩) (by simp) _).drew

set_option maxHeartbeats 400000 in
theorem pop_any (w : World) (H G m cap N : Nat) (c : Value) (f : Nat → Int × Int) (hcap : m + 1 ≤ cap) (hN : m + 1 ≤ N) (hc0 : N ≤ 1048576) (hGH : G ≠ H)
   (hH : w.rowIs H 30 2 (heapCells c G (m + 1) cap)) (hG : Prs w G 27 N f) :
   Calls Yba.prog 6 #[.pointer (some ⟨H, 0, none⟩)] w fun e w' => e = .returned (.tuple #[]) ∧
     w'.rowIs H 30 2 (heapCells c G m cap) ∧ Prs w' G 27 N (dropped m f) ∧ Touch [G, H] w w' := by
  have hm : (m : Int) < ((m + 1 : Nat) : Int) := by omega
  have hm0 : (0 : Int) < ((m + 1 : Nat) : Int) := by omega
  have hm1 : (0 : Int) ≤ (m : Int) := by omega
  have h1 : w.cell? ⟨H, 1, none⟩ = some (.slice (some ⟨G, 0, none⟩) (m + 1) cap) := hH.cell (i := 1) (by omega)
  have hx : w.cell? ⟨G, 0, none⟩ = some (.int .i64 (f 0).1) := by simpa using hG.fst (j := 0) (by omega)
  have hy : w.cell? ⟨G, 1, none⟩ = some (.int .i64 (f 0).2) := by simpa using hG.snd (j := 0) (by omega)
  have hu := hG.fst (j := m) (by omega)
  have hv := hG.snd (j := m) (by omega)
  have fz := hG.frozen
  have fzH := hH.frozen
  have hw1 : Prs ((w.setCell ⟨G, 0, none⟩ (.int .i64 (f m).1)).setCell ⟨G, 1, none⟩ (.int .i64 (f m).2)) G 27 N (fun i => if i = 0 then f m else f i) := by
    simpa using hG.set 0 (f m).1 (f m).2
  have HW1 : Hid (Prs ((w.setCell ⟨G, 0, none⟩ (.int .i64 (f m).1)).setCell ⟨G, 1, none⟩ (.int .i64 (f m).2)) G 27 N (fun i => if i = 0 then f m else f i)) := hw1
  have HG : Hid (Prs w G 27 N f) := hG
  have HH : Hid (w.rowIs H 30 2 (heapCells c G (m + 1) cap)) := hH
  clear hG hH hw1
  go_enter Yba.func6, Yba.ntmps6
  go_wp2
  go_region
  go_wp2
  rw [run_clear2]
  · go_wp2
    go_end0
    exact ⟨rfl, pop_world hGH HH.out HW1.out⟩
  · have := HW1.out.fst (j := m) (by omega)
    simp only [World.cell?_drew]
    rw [this]; rfl
  · have := HW1.out.snd (j := m) (by omega)
    simp only [World.cell?_drew]
    rw [this]; rfl
  · exact HW1.out.frozen _
  · exact HW1.out.frozen _
end Go.Proofs.Ybulkcglg
