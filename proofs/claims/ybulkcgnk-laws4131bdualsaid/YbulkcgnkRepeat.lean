import Derived.Test.YbulkcgnkMul
import Derived.Test.YbulkcgnkModelW
import Derived.Laws.CopyOwn
import Derived.Deep.RegionLaw
import Derived.Deep.RegionHeld3
import Derived.Deep.DrawnRows
import Derived.Deep.CutRange
import Derived.Deep.Slices
namespace Go.Proofs.Ybulkcgnk
open Go.RowKit
attribute [local go_sem ↓] Go.wp_at_zero Go.wp_at_succ

/-- The first i cells are laid. -/
def fill (i p : Nat) : List Value := List.replicate i (.int .i64 (-1)) ++ List.replicate (p - i) (.int .i64 0)

theorem made_row (w : World) (p : Nat) : (w.alloc (.cells (madeCells #[.int .i64 0] p) 3)).heap[w.heap.size]? = some (.cells (List.replicate p (Value.int .i64 0)).toArray 3 (0, 0)) := by
  rw [heap_alloc_new]
  congr 2
  apply Array.ext
  · simp [madeCells]
  · intro i h1 h2
    simp [madeCells, Nat.mod_one]
theorem fill_len {i p : Nat} : (fill i p).length = i + (p - i) := by simp [fill]
theorem fill_one {p : Nat} : splice (List.replicate p (Value.int .i64 0)) 0 [Value.int .i64 (-1)] = fill 1 p := by
  simp [splice, fill]
theorem fill_more {i p m : Nat} : splice (fill i p) i (List.replicate m (Value.int .i64 (-1))) = fill (i + m) p := by
  have e1 : (fill i p).take i = List.replicate i (Value.int .i64 (-1)) := by simp [fill]
  have e2 : (fill i p).drop (i + m) = List.replicate (p - (i + m)) (Value.int .i64 0) := by
    simp only [fill]
    rw [List.drop_append]
    simp
    omega
  rw [splice, e1, List.length_replicate, e2, ← List.append_assoc, List.replicate_append_replicate]
  rfl
theorem fill_row {w : World} {g p : Nat} (h : w.heap[g]? = some (.cells (fill p p).toArray 3 (0, 0))) : w.rowIs g 3 p (ints fun _ => -1) := by
  refine ⟨_, h, by simp [fill], fun i hi => by simp [fill, hi, ints]⟩
theorem fill_src {w : World} {g i p m j : Nat} {v : Value} (h : w.heap[g]? = some (.cells (fill i p).toArray 3 (0, 0))) (hm : m = Nat.min i (p - i)) (hj : (List.replicate m (Value.int .i64 (-1)))[j]? = some v) : w.cell? ((⟨g, 0, none⟩ : Addr).add j) = some v := by
  obtain ⟨h1, h2⟩ := List.getElem?_eq_some_iff.1 hj
  simp at h1 h2
  have hji : j < i := by subst hm; simp only [Nat.min_def] at h1; split at h1 <;> omega
  have e : (⟨g, 0, none⟩ : Addr).add j = ⟨g, j, none⟩ := by
    have := WideShapes.add_plain g 0 j
    simpa using this
  rw [e]
  simp only [World.cell?]
  rw [h]
  simp [fill, List.getElem?_append, hji, h2]
theorem one_src {w : World} {b j : Nat} {x v : Value} (h : w.cell? ⟨b, 0, none⟩ = some x) (hj : [x][j]? = some v) : w.cell? ((⟨b, 0, none⟩ : Addr).add j) = some v := by
  rw [List.getElem?_singleton] at hj
  split at hj
  · rename_i e; subst e; rw [← hj]; exact h
  · cases hj

set_option maxHeartbeats 1000000 in
theorem repeat_any (w : World) (b c p : Nat) (hp : 1 ≤ p) (hp' : p ≤ 512) (h0 : w.cell? ⟨b, 0, none⟩ = some (.int .i64 (-1))) :
    Calls Yba.prog 11 #[.slice (some ⟨b, 0, none⟩) 1 c, .int .i64 (p : Int)] w fun e w' =>
      e = .returned (.slice (some ⟨w.heap.size, 0, none⟩) p p) ∧ w'.rowIs w.heap.size 3 p (ints fun _ => -1) ∧ Below w.heap.size w w' := by
  have hmk := make_ints w p (by omega)
  have hneg : decide ((p : Int) < 0) = false := by simp
  have hcv : IntKind.u64.wrap (p : Int) = (p : Int) := by rw [IntKind.wrap_u64]; omega
  have hcv2 : IntKind.i64.wrap (p : Int) = (p : Int) := by rw [IntKind.wrap_i64]; omega
  have hsz3 : (Yba.prog.info? 3).map (·.size) = some 1 := by kernel_rfl
  have hgw : Hid ((w.alloc (.cells (madeCells #[.int .i64 0] p) 3)).heap[w.heap.size]? = some (.cells (List.replicate p (Value.int .i64 0)).toArray 3 (0, 0))) := made_row w p
  have hbel : Hid (Below w.heap.size w (w.alloc (.cells (madeCells #[.int .i64 0] p) 3))) := (Below.refl _ _).alloc (Nat.le_refl _) _
  have hsrc : Hid ((w.alloc (.cells (madeCells #[.int .i64 0] p) 3)).cell? ⟨b, 0, none⟩ = some (.int .i64 (-1))) := (hbel.out.cell (p := ⟨b, 0, none⟩) (World.block_lt_of_cell? w _ h0)).trans h0
  go_enter Yba.func11, Yba.ntmps11
  go_upto_region 7 with (go_at_call 12; refine (mul_one _ p hp').mono ?_; rintro _ w9 ⟨rfl, h9⟩; rw [h9]; clear h9)
  iterate 7 go_step
  refine wpList_copy_splice rfl (.tmp 31) (.tmp 32) 25 25 rfl 3 Yba.underlying25 hsz3 _ _ p p 1 c rfl rfl w.heap.size 0 (List.replicate p (.int .i64 0)) 3 hgw.out [.int .i64 (-1)] (by simp [Nat.min_def]; omega) (fun _ => ⟨rfl, _, rfl, fun j v hj => one_src hsrc.out hj⟩) (by simp; omega) (by simp [Value.oneCell']) w.heap.size w hbel.out (Nat.le_refl _) ?_
  intro w4 hg4 hb4
  have H0 : Hid (w4.heap[w.heap.size]? = some (.cells (fill 1 p).toArray 3 (0, 0)) ∧ Below w.heap.size w w4) := ⟨fill_one ▸ hg4.out, hb4⟩
  clear hg4 hb4 hgw hbel hsrc h0 hmk
  go_wp2
  go_loopw [8] (fun s8 wr => ∃ (i : Nat), 1 ≤ i ∧ i ≤ p ∧ s8 = .int .i64 i ∧ wr.heap[w.heap.size]? = some (.cells (fill i p).toArray 3 (0, 0)) ∧ Below w.heap.size w wr) (fun s8 _ => p - (intOf s8).toNat)
  case atStart => exact ⟨1, by omega, by omega, rfl, H0.out⟩
  case round =>
    obtain ⟨i, hi1, hip, rfl, hg, hB⟩ := hrel
    clear H0
    by_cases hlt : i < p
    · have ii : (i : Int) < (p : Int) := by omega
      have ii1 : (i : Int) ≤ (p : Int) := by omega
      have ii0 : (0 : Int) ≤ (i : Int) := by omega
      have hpi : ¬ (p = i) := by omega
      obtain ⟨m, hm⟩ : ∃ m, m = Nat.min i (p - i) := ⟨_, rfl⟩
      have hmm : 1 ≤ m ∧ i + m ≤ p := by subst hm; simp only [Nat.min_def]; split <;> omega
      have HG : Hid (wr.heap[w.heap.size]? = some (.cells (fill i p).toArray 3 (0, 0)) ∧ Below w.heap.size w wr) := ⟨hg, hB⟩
      have HM : Hid (m = Nat.min i (p - i)) := hm
      have hwm : IntKind.i64.wrap ((i : Int) + (m : Int)) = (i : Int) + (m : Int) := by rw [IntKind.wrap_i64]; omega
      clear hg hB hm
      go_wp2
      go_region_held3 (fun _ => True) (trivial) ((refine step_copy_splice rfl (.tmp 41) (.tmp 44) 25 25 rfl 3 Yba.underlying25 hsz3 _ _ (p - i) (p - i) i p (by rfl) (by rfl) w.heap.size i (fill i p) 3 HG.out.1 (List.replicate m (.int .i64 (-1))) (by rw [List.length_replicate]; exact HM.out) (fun _ => ⟨by first | exact if_neg hpi | rfl, _, rfl, fun j v hj => fill_src (w := wr) HG.out.1 HM.out hj⟩) (by rw [List.length_replicate, fill_len]; omega) (by simp [Value.oneCell']) w.heap.size w HG.out.2.drew (Nat.le_refl _) ?_; intro w4 hg4 hb4))
      all_goals
        go_wp2
        exact ⟨⟨i + m, by omega, by omega, by go_num, by rw [← fill_more]; exact hg4.out, hb4⟩, by simp [intOf]; omega⟩
    · have e : p = i := by omega
      subst e
      have HQ : Hid (wr.rowIs w.heap.size 3 p (ints fun _ => -1) ∧ Below w.heap.size w wr) := ⟨fill_row hg, hB⟩
      clear hg hB
      go_wp2
      go_ret
      exact ⟨rfl, HQ.out⟩
end Go.Proofs.Ybulkcgnk
