import Derived.Test.YbulkcgnkGraph
import Derived.Test.YbulkcgnkModelW
import Derived.Deep.RegionLaw
import Derived.Deep.RegionHeld3
import Derived.Deep.DrawnRows
import Derived.Deep.CutRange
import Derived.Deep.Slices
namespace Go.Proofs.Ybulkcgnk
open Go.RowKit
attribute [local go_sem ↓] Go.wp_at_zero Go.wp_at_succ

theorem info25 : (Yba.prog.info? 25).map (fun i => (i.zero, i.size, i.bytes)) = some (some (.slice none 0 0), 1, 24) := by kernel_rfl
theorem make_rows (W : World) (p : Nat) (h : p ≤ 1024) : (Instr.makeSlice 37 (.int .i64 (p : Int)) (.int .i64 (p : Int))).run Yba.prog W = .ok (.slice (some ⟨W.heap.size, 0, none⟩) p p) (W.alloc (.cells (madeCells #[.slice none 0 0] p) 25)) := by
  obtain ⟨i0, hi, hz0, hz1, hz2⟩ := info_parts info25
  have := run_make (P := Yba.prog) W 37 25 i0 _ Yba.underlying37 hi hz0 .i64 .i64 p p (by omega) (by omega) (by rw [hz2]; omega) (by omega)
  simpa [Value.cells, hz1] using this

/-- The new graph's values. -/
def V0 (a b n : Nat) : Nat → Value := fun t => if t = 0 then .slice (some ⟨a, 0, none⟩) n n else if t = 1 then .slice (some ⟨b, 0, none⟩) n n else .slice none 0 0

theorem mapV0 {a b n s : Nat} (m : Nat) : ((List.range m).map fun x => V0 a b n (4 + 2 * x + s)) = List.replicate m (.slice none 0 0) := by
  apply List.ext_getElem
  · simp
  · intro i h1 h2
    have e1 : ¬ (4 + 2 * i + s = 1) := by omega
    simp [V0, e1]
theorem three (w : World) (o1 o2 o3 : Obj) : ((((w.alloc o1).alloc o2).alloc o3).drew.heap[w.heap.size]? = some o1) ∧ ((((w.alloc o1).alloc o2).alloc o3).drew.heap[w.heap.size + 1]? = some o2) ∧ ((((w.alloc o1).alloc o2).alloc o3).drew.heap[w.heap.size + 1 + 1]? = some o3) := by
  have s1 : (w.alloc o1).heap.size = w.heap.size + 1 := by simp
  have s2 : ((w.alloc o1).alloc o2).heap.size = w.heap.size + 1 + 1 := by simp
  refine ⟨?_, ?_, ?_⟩
  · show (((w.alloc o1).alloc o2).alloc o3).heap[w.heap.size]? = _
    rw [Below.heap_alloc _ _ _ (by omega), Below.heap_alloc _ _ _ (by omega)]
    exact heap_alloc_new w o1
  · show (((w.alloc o1).alloc o2).alloc o3).heap[w.heap.size + 1]? = _
    rw [Below.heap_alloc _ _ _ (by omega), ← s1]
    exact heap_alloc_new _ o2
  · show (((w.alloc o1).alloc o2).alloc o3).heap[w.heap.size + 1 + 1]? = _
    rw [← s2]
    exact heap_alloc_new _ o3
theorem gs_new {w W : World} {a b n G : Nat} (hn : n ≤ 512) (ha : w.heap.size ≤ a) (hb : w.heap.size ≤ b) (hab : a ≠ b) (hG : w.heap.size ≤ G) (h1 : W.heap[a]? = some (.cells (madeCells #[.slice none 0 0] n) 25 (0, 0))) (h2 : W.heap[b]? = some (.cells (madeCells #[.slice none 0 0] n) 25 (0, 0)))
    (h3 : W.heap[G]? = some (.cells #[.int .i64 (n : Int), .slice (some ⟨a, 0, none⟩) n n, .slice (some ⟨b, 0, none⟩) n n] 39 (0, 0))) : GS w.heap.size G W n (fun _ => n) (V0 a b n) (fun _ => []) := by
  have hm : n ≤ maxLen := by unfold maxLen; omega
  have hz : (madeCells #[Value.slice none 0 0] n).size = n * 1 := by simp [madeCells]
  have hl : (madeCells #[Value.slice none 0 0] n).toList.take (n * 1) = List.replicate n (.slice none 0 0) := by
    rw [toList_madeCells_one]; simp
  refine ⟨fun s hs => ?_, fun t ht => ?_, fun s t g hs ht => ?_, h3, fun s x hs _ => ?_, hG⟩
  · have hs2 : s = 0 ∨ s = 1 := by omega
    rw [mapV0]
    refine ⟨by simp, .inr ?_⟩
    rcases hs2 with rfl | rfl
    · exact ⟨a, n, _, rfl, ha, h1, Nat.le_refl _, hm, hz, hl⟩
    · exact ⟨b, n, _, rfl, hb, h2, Nat.le_refl _, hm, hz, hl⟩
  · have e0 : ¬ (t = 0) := by omega
    have e1 : ¬ (t = 1) := by omega
    simp only [V0, if_neg e0, if_neg e1]
    exact World.ownsRow_nil _ _ _ _
  · have key : ∀ u k, (V0 a b n u).ownBlock = some k → (u = 0 ∧ k = a) ∨ (u = 1 ∧ k = b) := by
      intro u k hu
      unfold V0 at hu
      split at hu
      · simp [Value.ownBlock] at hu; exact .inl ⟨by assumption, hu.symm⟩
      · split at hu
        · simp [Value.ownBlock] at hu; exact .inr ⟨by assumption, hu.symm⟩
        · cases hu
    have a1 := key s g hs
    have a2 := key t g ht
    omega
  · have e0 : ¬ (4 + 2 * x + s = 0) := by omega
    have e1 : ¬ (4 + 2 * x + s = 1) := by omega
    simp only [V0, if_neg e0, if_neg e1]

set_option maxHeartbeats 1000000 in
theorem new_any (w : World) (n : Nat) (hn : n ≤ 512) :
    Calls Yba.prog 8 #[.int .i64 (n : Int)] w fun e w' =>
      ∃ G V, e = .returned (.pointer (some ⟨G, 0, none⟩)) ∧ GS w.heap.size G w' n (fun _ => n) V (fun _ => []) ∧ V 2 = .slice none 0 0 ∧ V 3 = .slice none 0 0 ∧ Below w.heap.size w w' := by
  have hmk := fun W => make_rows W n (by omega)
  go_enter Yba.func8, Yba.ntmps8
  go_wp2
  go_region
  all_goals
    go_wp2
    go_ret
    first
    | exact ⟨_, V0 w.heap.size (w.heap.size + 1) n, rfl, gs_new hn (by omega) (by omega) (by omega) (by omega) (three ..).1 (three ..).2.1 (three ..).2.2, rfl, rfl, ((((Below.refl _ w).alloc (Nat.le_refl _) _).alloc (by simp) _).alloc (by simp; omega) _).drew⟩
    | exact ⟨_, V0 (w.heap.size + 1) w.heap.size n, rfl, gs_new hn (by omega) (by omega) (by omega) (by omega) (three ..).2.1 (three ..).1 (three ..).2.2, rfl, rfl, ((((Below.refl _ w).alloc (Nat.le_refl _) _).alloc (by simp) _).alloc (by simp; omega) _).drew⟩
end Go.Proofs.Ybulkcgnk
