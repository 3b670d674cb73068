import Derived.Test.YbulkcglgLeast
import Derived.Deep.LoopGhost
namespace Go.Proofs.Ybulkcglg
open Go.RowKit

theorem st_nilFunc (P : Program) (w : World) (a : Addr) (m : Mode) : (store a .nilFunc m).run P w = stored P w a .nilFunc m := run_store P w a _ m rfl
attribute [local go_sem] st_nilFunc
theorem Yba.info27 : (Yba.prog.info? 27).map (fun i => (i.zero, i.size, i.bytes)) = some (some (.agg #[.int .i64 0, .int .i64 0]), 2, 16) := by kernel_rfl

def zeroPairs (n : Nat) : Array Value := madeCells #[.int .i64 0, .int .i64 0] (n * 2)

theorem pairs_made (w : World) (n : Nat) : Pairs (w.alloc (.cells (zeroPairs n) 27)) w.heap.size 27 n (fun _ => (0, 0)) := by
  refine ⟨zeroPairs n, heap_alloc_new _ _, size_madeCells _ _, fun i hi => ?_⟩
  have : i % 2 = 0 ∨ i % 2 = 1 := by omega
  rcases this with h | h <;> simp [zeroPairs, madeCells, hi, pr, h]

theorem run_make23 (W : World) (n : Nat) (hn : n ≤ 1048576) :
    (Instr.makeSlice 23 (.int .i64 (n : Int)) (.int .i64 (n : Int))).run Yba.prog W = .ok (.slice (some ⟨W.heap.size, 0, none⟩) n n) (W.alloc (.cells (zeroPairs n) 27)) := by
  obtain ⟨i0, hi, hz0, hz1, hz2⟩ := info_parts Yba.info27
  have := run_make (P := Yba.prog) W 23 27 i0 _ Yba.underlying23 hi hz0 .i64 .i64 n n (by omega) (by omega) (by rw [hz2]; omega) (by omega)
  rw [this]
  simp [hz1, zeroPairs, Value.cells]

theorem shape_step {w wr : World} {len k : Nat} {g : Nat → Int × Int} (hk : k < len)
    (hS : Pairs ((wr.setCell ⟨w.heap.size, k * 2, none⟩ (.int .i64 (g k).1)).setCell ⟨w.heap.size, k * 2 + 1, none⟩ (.int .i64 (g k).2)) w.heap.size 27 len (fun i => if i = k then g k else if i < k then g i else (0, 0)))
    (hB : Below w.heap.size w wr) :
    Pairs ((wr.setCell ⟨w.heap.size, k * 2, none⟩ (.int .i64 (g k).1)).setCell ⟨w.heap.size, k * 2 + 1, none⟩ (.int .i64 (g k).2)).drew w.heap.size 27 len (fun i => if i < k + 1 then g i else (0, 0)) ∧
    Below w.heap.size w ((wr.setCell ⟨w.heap.size, k * 2, none⟩ (.int .i64 (g k).1)).setCell ⟨w.heap.size, k * 2 + 1, none⟩ (.int .i64 (g k).2)).drew := by
  refine ⟨(Pairs.drew hS).congr fun j hj => ?_, ((hB.setCell (p := ⟨w.heap.size, k * 2, none⟩) (Nat.le_refl _) _).setCell (p := ⟨w.heap.size, k * 2 + 1, none⟩) (Nat.le_refl _) _).drew⟩
  by_cases e : j = k
  · subst e; simp
  · simp only [if_neg e]
    by_cases l : j < k
    · rw [if_pos l, if_pos (by omega)]
    · rw [if_neg l, if_neg (by omega)]

set_option maxHeartbeats 1000000 in
theorem shape_some (w : World) (b off len cap : Nat) (g : Nat → Int × Int) (hb : b < w.heap.size) (hlen : 1 ≤ len) (hmax : len ≤ 1024)
    (c0 : ∀ j, j < len → w.cell? ⟨b, off + j * 2, none⟩ = some (.int .i64 (g j).1)) (c1 : ∀ j, j < len → w.cell? ⟨b, off + j * 2 + 1, none⟩ = some (.int .i64 (g j).2)) :
    Calls Yba.prog 3 #[.slice (some ⟨b, off, none⟩) len cap] w fun e w' => e = .returned (.bool true) ∧ Below w.heap.size w w' := by
  have e1 : decide ((1024 : Int) < (len : Int)) = false := by simp; omega
  have e2 : ((len : Int) == 0) = false := by simp; omega
  go_enter Yba.func3, Yba.ntmps3
  go_wp2
  rw [run_make23 _ _ (by omega)]
  have hp := pairs_made w len
  have hB : Below w.heap.size w (w.alloc (.cells (zeroPairs len) 27)) := (Below.refl _ _).alloc (Nat.le_refl _) _
  have hs : (w.alloc (.cells (zeroPairs len) 27)).heap.size = w.heap.size + 1 := by simp
  generalize w.alloc (.cells (zeroPairs len) 27) = w1 at *
  go_wp2
  go_loopw [5] (fun i wr => ∃ k : Nat, k ≤ len ∧ i = .int .i64 k ∧ Pairs wr w.heap.size 27 len (fun j => if j < k then g j else (0, 0)) ∧ Below w.heap.size w wr) (fun i _ => len - (intOf i).toNat)
  case atStart => exact ⟨0, by omega, rfl, hp.congr fun j _ => by simp, hB⟩
  case round =>
    obtain ⟨k, hk, rfl, hpk, hBk⟩ := hrel
    clear hp hB hs
    by_cases hlt : k < len
    · have d0 := (hBk.cell (p := ⟨b, off + k * 2, none⟩) hb).trans (c0 k hlt)
      have d1 := (hBk.cell (p := ⟨b, off + k * 2 + 1, none⟩) hb).trans (c1 k hlt)
      have d2 := hpk.fst hlt
      have d3 := hpk.snd hlt
      have d4 := hpk.frozen
      have hset := hpk.set k (g k).1 (g k).2
      have hi : (k : Int) < (len : Int) := by omega
      have hi0 : (0 : Int) ≤ (k : Int) := by omega
      have HS : Hid (Pairs ((wr.setCell ⟨w.heap.size, k * 2, none⟩ (.int .i64 (g k).1)).setCell ⟨w.heap.size, k * 2 + 1, none⟩ (.int .i64 (g k).2)) w.heap.size 27 len (fun i => if i = k then g k else if i < k then g i else (0, 0))) := hset
      clear hpk hset c0 c1
      go_wp2
      go_region
      go_wp2
      go_roundw
      case rel => exact ⟨k + 1, by omega, by go_num, shape_step hlt HS.out hBk⟩
      case measure => simp [intOf]; omega
    · have e : k = len := by omega
      subst e
      have hp : Pairs wr w.heap.size 27 k g := hpk.congr fun j hj => by rw [if_pos hj]
      clear hpk
      obtain ⟨m, rfl⟩ : ∃ m, k = m + 1 := ⟨k - 1, by omega⟩
      have hcmp : ∀ W, Sem.run Yba.prog (binOp BinOp.neq 28 Value.nilFunc Value.nilFunc) W = .ok (.bool false) W := fun W => by kernel_rfl
      go_wp2_with fail
      have hHr : (wr.alloc (Obj.cells #[Value.nilFunc, Value.slice (some ⟨w.heap.size, 0, none⟩) (m + 1) (m + 1)] 30)).rowIs wr.heap.size 30 2 (heapCells .nilFunc w.heap.size (m + 1) (m + 1)) :=
        World.rowIs_alloc wr _ 30 _ (by intro i hi; match i, hi with | 0, _ => rfl | 1, _ => rfl)
      have hB2 : Below w.heap.size w (wr.alloc (Obj.cells #[Value.nilFunc, Value.slice (some ⟨w.heap.size, 0, none⟩) (m + 1) (m + 1)] 30)) := hBk.alloc hBk.size _
      have hp2 : Pairs (wr.alloc (Obj.cells #[Value.nilFunc, Value.slice (some ⟨w.heap.size, 0, none⟩) (m + 1) (m + 1)] 30)) w.heap.size 27 (m + 1) g := World.rowIs.alloc hp _
      have hlt2 := hp.lt
      refine (least_any _ wr.heap.size w.heap.size m (m + 1) .nilFunc g (Nat.le_refl _) (by omega) (by omega) hHr hp2).mono ?_
      rintro e w2 ⟨rfl, hH2, hG2, hT2⟩
      have hB3 : Below w.heap.size w w2 := hB2.trans (hT2.below (by simp; omega) (by simp; omega))
      clear hB2 hp2 hHr hT2 hp hBk
      generalize wr.heap.size = H at *
      have q0 : w2.cell? ⟨H, 0, none⟩ = some .nilFunc := hH2.cell (i := 0) (by omega)
      have q1 : w2.cell? ⟨H, 1, none⟩ = some (.slice (some ⟨w.heap.size, 0, none⟩) m (m + 1)) := hH2.cell (i := 1) (by omega)
      have z0 : w2.cell? ⟨w.heap.size, m * 2, none⟩ = some (.int .i64 0) := by rw [hG2.fst (by omega)]; simp [dropped]
      have z1 : w2.cell? ⟨w.heap.size, m * 2 + 1, none⟩ = some (.int .i64 0) := by rw [hG2.snd (by omega)]; simp [dropped]
      by_cases hm : m = 0
      · subst hm
        have HG2 : Hid (Pairs w2 w.heap.size 27 (0 + 1) (dropped 0 g)) := hG2
        have HH2 : Hid (w2.rowIs H 30 2 (heapCells .nilFunc w.heap.size 0 (0 + 1))) := hH2
        clear hG2 hH2 c0 c1
        simp only [Nat.zero_mul, Nat.zero_add] at z0 z1
        go_wp2
        go_ret
        exact ⟨rfl, hB3⟩
      · have a0 := (hB3.cell (p := ⟨b, off + m * 2, none⟩) hb).trans (c0 m (by omega))
        have a1 := (hB3.cell (p := ⟨b, off + m * 2 + 1, none⟩) hb).trans (c1 m (by omega))
        have b0 : w2.cell? ⟨w.heap.size, 0, none⟩ = some (.int .i64 (g m).1) := by 
          have := hG2.fst (j := 0) (by omega)
          simpa [dropped, Ne.symm hm] using this
        have b1 : w2.cell? ⟨w.heap.size, 1, none⟩ = some (.int .i64 (g m).2) := by 
          have := hG2.snd (j := 0) (by omega)
          simpa [dropped, Ne.symm hm] using this
        have hgt : (1 : Int) < ((m + 1 : Nat) : Int) := by omega
        have hmi : (m : Int) < ((m + 1 : Nat) : Int) := by omega
        have hmi0 : (0 : Int) ≤ (m : Int) := by omega
        have hmp : (0 : Int) < (m : Int) := by omega
        have HG2 : Hid (Pairs w2 w.heap.size 27 (m + 1) (dropped m g)) := hG2
        have HH2 : Hid (w2.rowIs H 30 2 (heapCells .nilFunc w.heap.size m (m + 1))) := hH2
        clear hG2 hH2
        have hd1 : decide ((1 : Int) < (m : Int) + 1) = true := by simp; omega
        go_wp2
        go_quiet (fail)
        go_wp2
        have hB4 : Below w.heap.size w (w2.drewN nq) := hB3.trans ⟨rfl, rfl, rfl, Nat.le_refl _, fun _ _ => rfl⟩
        go_loopw [7] (fun i wx => ∃ k : Nat, 1 ≤ k ∧ k ≤ m ∧ i = .int .i64 k ∧ ∃ n, wx = w2.drewN n) (fun i _ => m - (intOf i).toNat)
        case atStart => exact ⟨1, by omega, by omega, rfl, nq, rfl⟩
        case round =>
          obtain ⟨k, hk1, hk, rfl, nx, rfl⟩ := hrel
          by_cases hkm : k < m
          · have r0 := (hB3.cell (p := ⟨b, off + k * 2, none⟩) hb).trans (c0 k (by omega))
            have r1 := (hB3.cell (p := ⟨b, off + k * 2 + 1, none⟩) hb).trans (c1 k (by omega))
            have s0 : w2.cell? ⟨w.heap.size, k * 2, none⟩ = some (.int .i64 (g k).1) := by
              have := HG2.out.fst (j := k) (by omega)
              simpa [dropped, show k ≠ m by omega, show k ≠ 0 by omega] using this
            have s1 : w2.cell? ⟨w.heap.size, k * 2 + 1, none⟩ = some (.int .i64 (g k).2) := by
              have := HG2.out.snd (j := k) (by omega)
              simpa [dropped, show k ≠ m by omega, show k ≠ 0 by omega] using this
            have ki0 : (0 : Int) ≤ (k : Int) := by omega
            have ki1 : (k : Int) < (m : Int) := by omega
            have ki2 : (k : Int) < ((m + 1 : Nat) : Int) := by omega
            clear c0 c1
            go_wp2
            go_quiet (fail)
            go_wp2
            go_roundw
            case rel => exact ⟨k + 1, by omega, by omega, by go_num, _, rfl⟩
            case measure => simp [intOf]; omega
          · have e : k = m := by omega
            subst e
            clear c0 c1
            go_wp2
            go_ret
            exact ⟨rfl, hB3.trans ⟨rfl, rfl, rfl, Nat.le_refl _, fun _ _ => rfl⟩⟩
end Go.Proofs.Ybulkcglg
