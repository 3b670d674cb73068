import Derived.Test.YbulkcglgRows
import Derived.Test.YbulkcglgMem
import Derived.Lib.SliceRun
import Derived.WalkSpells
import Derived.Deep.QuietTactic
import Derived.BigQuiet
import Derived.WalkLawsBesides
namespace Go.Proofs.Ybulkcglg
open Go.RowKit

theorem zeros2 : (Builtin.zeroCells (Value.agg #[.int .i64 0, .int .i64 0]).cells 1).toList = [.int .i64 0, .int .i64 0] := by
  simp [Builtin.zeroCells, Value.cells, List.range_succ]

theorem run_clear2 (W : World) (G o c : Nat) (ty : TypeId) (h0 : (W.cell? ⟨G, o, none⟩).isSome = true) (h1 : (W.cell? ⟨G, o + 1, none⟩).isSome = true)
    (f0 : W.frozen? ⟨G, o, none⟩ = false) (f1 : W.frozen? ⟨G, o + 1, none⟩ = false) :
    (Builtin.clear_ #[23] ty #[.slice (some ⟨G, o, none⟩) 1 c]).run Yba.prog W = .ok (.tuple #[]) ((W.setCell ⟨G, o, none⟩ (.int .i64 0)).setCell ⟨G, o + 1, none⟩ (.int .i64 0)) := by
  have hst := run_storeCells_cells (P := Yba.prog) G o [.int .i64 0, .int .i64 0] 0 W (by
    intro j hj
    match j, hj with
    | 0, _ => simpa using h0
    | 1, _ => simpa using h1) (by
    intro j hj
    match j, hj with
    | 0, _ => simpa using f0
    | 1, _ => simpa using f1) (by simp [Value.oneCell'])
  simp only [Nat.add_zero] at hst
  simp [Builtin.clear_, run_underlying Yba.underlying23, zeros2, hst]
  rfl

/-- The heap's struct: cmp, heads. -/
def heapCells (c : Value) (G n cap : Nat) (i : Nat) : Value := if i = 0 then c else .slice (some ⟨G, 0, none⟩) n cap

/-- What removeLeast makes of the heads. -/
def dropped (m : Nat) (f : Nat → Int × Int) : Nat → Int × Int := fun i => if i = m then (0, 0) else if i = 0 then f m else f i

/-- The world behind removeLeast, written out as the walk writes it. -/
theorem least_world {w : World} {H G m cap : Nat} {c : Value} {f : Nat → Int × Int} (hGH : G ≠ H) (hH : w.rowIs H 30 2 (heapCells c G (m + 1) cap))
    (hw1 : Pairs ((w.setCell ⟨G, 0, none⟩ (.int .i64 (f m).1)).setCell ⟨G, 1, none⟩ (.int .i64 (f m).2)) G 27 cap (fun i => if i = 0 then f m else f i)) :
    ((((((w.setCell ⟨G, 0, none⟩ (.int .i64 (f m).1)).setCell ⟨G, 1, none⟩ (.int .i64 (f m).2)).setCell ⟨G, m * 2, none⟩ (.int .i64 0)).setCell ⟨G, m * 2 + 1, none⟩ (.int .i64 0)).setCell ⟨H, 1, none⟩ (.slice (some ⟨G, 0, none⟩) m cap)).drew).rowIs H 30 2 (heapCells c G m cap) ∧
    Pairs (((((w.setCell ⟨G, 0, none⟩ (.int .i64 (f m).1)).setCell ⟨G, 1, none⟩ (.int .i64 (f m).2)).setCell ⟨G, m * 2, none⟩ (.int .i64 0)).setCell ⟨G, m * 2 + 1, none⟩ (.int .i64 0)).setCell ⟨H, 1, none⟩ (.slice (some ⟨G, 0, none⟩) m cap)).drew G 27 cap (dropped m f) ∧
    Touch [G, H] w (((((w.setCell ⟨G, 0, none⟩ (.int .i64 (f m).1)).setCell ⟨G, 1, none⟩ (.int .i64 (f m).2)).setCell ⟨G, m * 2, none⟩ (.int .i64 0)).setCell ⟨G, m * 2 + 1, none⟩ (.int .i64 0)).setCell ⟨H, 1, none⟩ (.slice (some ⟨G, 0, none⟩) m cap)).drew := by
  refine ⟨?_, ?_, ?_⟩
  · have k1 := (((hH.setOther (a := ⟨G, 0, none⟩) (Ne.symm hGH) (.int .i64 (f m).1)).setOther (a := ⟨G, 1, none⟩) (Ne.symm hGH) (.int .i64 (f m).2)).setOther (a := ⟨G, m * 2, none⟩) (Ne.symm hGH) (.int .i64 0)).setOther (a := ⟨G, m * 2 + 1, none⟩) (Ne.symm hGH) (.int .i64 0)
    refine World.rowIs.congr (World.rowIs.drew (k1.set 1 (.slice (some ⟨G, 0, none⟩) m cap))) fun i hi => ?_
    match i, hi with
    | 0, _ => rfl
    | 1, _ => rfl
  · exact (Pairs.drew (Pairs.setOther (hw1.set m 0 0) (a := ⟨H, 1, none⟩) hGH _)).congr fun j _ => rfl
  · exact ((((((Touch.refl [G, H] w).setCell (a := ⟨G, 0, none⟩) (by simp) _).setCell (a := ⟨G, 1, none⟩) (by simp) _).setCell (a := ⟨G, m * 2, none⟩) (by simp) _).setCell (a := ⟨G, m * 2 + 1, none⟩) (by simp) _).setCell (a := ⟨H, 1, none⟩) (by simp) _).drew

set_option maxHeartbeats 400000 in
theorem least_any (w : World) (H G m cap : Nat) (c : Value) (f : Nat → Int × Int) (hcap : m + 1 ≤ cap) (hc0 : cap ≤ 1048576) (hGH : G ≠ H)
   (hH : w.rowIs H 30 2 (heapCells c G (m + 1) cap)) (hG : Pairs w G 27 cap f) :
   Calls Yba.prog 6 #[.pointer (some ⟨H, 0, none⟩)] w fun e w' => e = .returned (.tuple #[]) ∧
     w'.rowIs H 30 2 (heapCells c G m cap) ∧ Pairs w' G 27 cap (dropped m f) ∧ Touch [G, H] w w' := by
  have hm : (m : Int) < ((m + 1 : Nat) : Int) := by omega
  have hm0 : (0 : Int) < ((m + 1 : Nat) : Int) := by omega
  have hm1 : (0 : Int) ≤ (m : Int) := by omega
  have h1 : w.cell? ⟨H, 1, none⟩ = some (.slice (some ⟨G, 0, none⟩) (m + 1) cap) := hH.cell (i := 1) (by omega)
  have hx : w.cell? ⟨G, 0, none⟩ = some (.int .i64 (f 0).1) := by simpa using hG.fst (j := 0) (by omega)
  have hy : w.cell? ⟨G, 1, none⟩ = some (.int .i64 (f 0).2) := by simpa using hG.snd (j := 0) (by omega)
  have hu := hG.fst (j := m) (by omega)
  have hv := hG.snd (j := m) (by omega)
  have fz := hG.frozen
  have fzH := hH.frozen
  have hw1 : Pairs ((w.setCell ⟨G, 0, none⟩ (.int .i64 (f m).1)).setCell ⟨G, 1, none⟩ (.int .i64 (f m).2)) G 27 cap (fun i => if i = 0 then f m else f i) := by
    simpa using hG.set 0 (f m).1 (f m).2
  have HW1 : Hid (Pairs ((w.setCell ⟨G, 0, none⟩ (.int .i64 (f m).1)).setCell ⟨G, 1, none⟩ (.int .i64 (f m).2)) G 27 cap (fun i => if i = 0 then f m else f i)) := hw1
  have HG : Hid (Pairs w G 27 cap f) := hG
  have HH : Hid (w.rowIs H 30 2 (heapCells c G (m + 1) cap)) := hH
  clear hG hH hw1
  go_enter Yba.func6, Yba.ntmps6
  go_wp2
  go_region
  go_wp2
  rw [run_clear2]
  · go_wp2
    go_end0
    exact ⟨rfl, least_world hGH HH.out HW1.out⟩
  · have := HW1.out.fst (j := m) (by omega)
    simp only [World.cell?_drew]
    rw [this]; rfl
  · have := HW1.out.snd (j := m) (by omega)
    simp only [World.cell?_drew]
    rw [this]; rfl
  · exact HW1.out.frozen _
  · exact HW1.out.frozen _
end Go.Proofs.Ybulkcglg
