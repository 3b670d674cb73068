import Derived.Test.YbulkcglgCompact
import Derived.Maps.AppendAt
import Derived.Deep.QuietTactic
import Derived.BigQuiet
import Derived.WalkLawsBesides
import Derived.WalkSpells
namespace Go.Proofs.Ybulkcglg
open Go.RowKit
attribute [local go_sem] Oper.semAt_some

/-- Where the runs start, among the first k elements. -/
def starts (z : Nat → Int) (k : Nat) : List Nat := (List.range k).filter (isNew z)

theorem starts_new {z : Nat → Int} {k : Nat} (h : isNew z k = true) : starts z (k + 1) = starts z k ++ [k] := by
  simp [starts, List.range_succ, List.filter_append, h]
theorem starts_old {z : Nat → Int} {k : Nat} (h : isNew z k = false) : starts z (k + 1) = starts z k := by
  simp [starts, List.range_succ, List.filter_append, h]
theorem starts_le (z : Nat → Int) (k : Nat) : (starts z k).length ≤ k := by
  have := List.length_filter_le (isNew z) (List.range k)
  simpa [starts] using this

theorem starts_prefix {z : Nat → Int} {k i s : Nat} (n : Nat) (h : (starts z k)[i]? = some s) : (starts z (k + n))[i]? = some s := by
  induction n with
  | zero => exact h
  | succ n ih =>
    rw [← Nat.add_assoc]
    by_cases hn : isNew z (k + n) = true
    · rw [starts_new hn]
      have hlt : i < (starts z (k + n)).length := (List.getElem?_eq_some_iff.1 ih).1
      rw [List.getElem?_append_left hlt]
      exact ih
    · rw [starts_old (by simpa using hn)]
      exact ih

/-- The two rows that the law itself gathers: want, at. -/
structure Two (B : Nat) (z : Nat → Int) (k : Nat) (w1 wr : World) (wv av : Value) : Prop where
  want : wr.ownsRow B 37 1 wv (starts z k).length ((starts z k).map fun i => .int .i8 (z i))
  at_ : wr.ownsRow B 3 1 av (starts z k).length ((starts z k).map fun i => .int .i64 (Int.ofNat i))
  below : Below B w1 wr

theorem Yba.info37 : (Yba.prog.info? 37).map (fun i => (i.zero, i.size, i.bytes)) = some (some (.int .i8 0), 1, 1) := by kernel_rfl
theorem Yba.info3 : (Yba.prog.info? 3).map (fun i => (i.zero, i.size, i.bytes)) = some (some (.int .i64 0), 1, 8) := by kernel_rfl

theorem own_ne {w : World} {B e e' s s' n n' : Nat} {v v' : Value} {xs xs' : List Value} (h : w.ownsRow B e s v n xs) (h' : w.ownsRow B e' s' v' n' xs') (ne : e ≠ e') : v.ownBlock = none ∨ v.ownBlock ≠ v'.ownBlock := by
  rcases h.2 with ⟨rfl, _⟩ | ⟨g, cp, cur, rfl, _, hg, _⟩
  · exact .inl rfl
  · refine .inr fun eq => ?_
    rcases h'.2 with ⟨rfl, _⟩ | ⟨g', cp', cur', rfl, _, hg', _⟩
    · simp [Value.ownBlock] at eq
    · simp [Value.ownBlock] at eq
      subst eq
      rw [hg] at hg'
      simp at hg'
      exact ne hg'.2

/-- Behind the first append. -/
theorem two_mid {B : Nat} {z : Nat → Int} {k : Nat} {w1 V W' : World} {wv av : Value} {o : Obj} (h : Two B z k w1 V wv av) (hB : B ≤ V.heap.size)
    (hg : (V.alloc o).grownBy W' wv.ownBlock) : W'.ownsRow B 3 1 av (starts z k).length ((starts z k).map fun i => .int .i64 (Int.ofNat i)) ∧ Below B w1 W' ∧ B ≤ W'.heap.size := by
  have hne := own_ne (h.at_.alloc o) (h.want.alloc o) (by decide)
  refine ⟨(h.at_.alloc o).kept hg hne, ?_, ?_⟩
  · exact (h.below.alloc hB o).grown hg (by simp; omega) (fun j e => (h.want.lt j e).1)
  · have := hg.size
    simp at this
    omega
/-- Behind the second. -/
theorem two_end {B : Nat} {z : Nat → Int} {k : Nat} {w1 V W' : World} {wv av av' : Value} {o : Obj} (hn : isNew z k = true)
    (hw : V.ownsRow B 37 1 wv ((starts z k).length + 1) ((starts z k).map (fun i => .int .i8 (z i)) ++ [.int .i8 (z k)]))
    (ha : V.ownsRow B 3 1 av (starts z k).length ((starts z k).map fun i => .int .i64 (Int.ofNat i))) (hb : Below B w1 V) (hB : B ≤ V.heap.size)
    (ho : W'.ownsRow B 3 1 av' ((starts z k).length + 1) ((starts z k).map (fun i => .int .i64 (Int.ofNat i)) ++ [.int .i64 (k : Int)]))
    (hg : (V.alloc o).grownBy W' av.ownBlock) : Two B z (k + 1) w1 W' wv av' := by
  have hne := own_ne (hw.alloc o) (ha.alloc o) (by decide)
  have e1 := starts_new hn
  refine ⟨?_, ?_, ?_⟩
  · rw [e1]
    simpa using (hw.alloc o).kept hg hne
  · rw [e1]
    simpa using ho
  · exact (hb.alloc hB o).grown hg (by simp; omega) (fun j e => (ha.lt j e).1)
theorem Two.drewN {B : Nat} {z : Nat → Int} {k : Nat} {w1 V : World} {wv av : Value} (h : Two B z k w1 V wv av) (n : Nat) : Two B z k w1 (V.drewN n) wv av :=
  ⟨h.want, h.at_, ⟨h.below.os, h.below.tape, h.below.output, h.below.size, h.below.block⟩⟩
theorem Two.old {B : Nat} {z : Nat → Int} {k : Nat} {w1 V : World} {wv av : Value} (h : Two B z k w1 V wv av) (hn : isNew z k = false) : Two B z (k + 1) w1 V wv av := by
  refine ⟨?_, ?_, h.below⟩
  · rw [starts_old hn]; exact h.want
  · rw [starts_old hn]; exact h.at_

theorem own_form {w : World} {B e n : Nat} {v : Value} {xs : List Value} (h : w.ownsRow B e 1 v n xs) :
    ∃ p c, v = .slice p n c ∧ n ≤ c ∧ ∀ j u, xs[j]? = some u → ∃ g, p = some ⟨g, 0, none⟩ ∧ B ≤ g ∧ g < w.heap.size ∧ w.cell? ⟨g, j, none⟩ = some u := by
  rcases h.2 with ⟨rfl, rfl⟩ | ⟨g, cp, cur, rfl, hb, hg, hn, _⟩
  · refine ⟨none, 0, rfl, Nat.le_refl _, fun j u hj => ?_⟩
    have : xs = [] := List.eq_nil_of_length_eq_zero (by simpa using h.1)
    subst this
    simp at hj
  · refine ⟨some ⟨g, 0, none⟩, cp, rfl, hn, fun j u hj => ⟨g, rfl, hb, (Array.getElem?_eq_some_iff.1 hg).1, ?_⟩⟩
    have := h.cells (g := g) rfl j u hj
    have ha : (⟨g, 0, none⟩ : Addr).add j = ⟨g, j, none⟩ := by unfold Addr.add; split <;> simp_all
    rwa [ha] at this


/-- What the law's own memory holds while the range goes on: p elements are pulled, k are done with. -/
structure MI (n0 N2 : Nat) (wr : World) (z : Nat → Int) (L : Int) (b : Bool) (r0 : Loop) (p : Int) (k : Nat) (V : World) : Prop where
  os : V.os = wr.os
  tape : V.tape = wr.tape
  output : V.output = wr.output
  size : N2 + 6 ≤ V.heap.size
  old : ∀ i, i < N2 → i ≠ n0 + 1 → V.heap[i]? = wr.heap[i]?
  pulled : V.heap[n0 + 1]? = some (.cells #[.int .i64 p] 3 (0, 0))
  lim : V.heap[N2]? = some (.cells #[.int .i64 L] 3 (0, 0))
  brk : V.heap[N2 + 1]? = some (.cells #[.bool b] 4 (0, 0))
  got : ∃ gv, V.heap[N2 + 2]? = some (.cells #[gv] 35 (0, 0)) ∧ V.ownsRow (N2 + 11) 37 1 gv (starts z k).length ((starts z k).map fun i => .int .i8 (z i))
  d0 : V.heap[N2 + 4]? = some (.deferred (some []))
  l0 : V.heap[N2 + 5]? = some (.loop r0)

section
variable {n0 N2 : Nat} {wr : World} {z : Nat → Int} {L : Int} {b : Bool} {r0 : Loop} {p : Int} {k : Nat} {V V' : World}

theorem own_block_same {e n B : Nat} {v : Value} {xs : List Value} (h : V.ownsRow B e 1 v n xs) (hs : ∀ g, v.ownBlock = some g → V'.heap[g]? = V.heap[g]?) : V'.ownsRow B e 1 v n xs := by
  refine ⟨h.1, ?_⟩
  rcases h.2 with hn | ⟨g, cp, cur, rfl, hb, hg, rest⟩
  · exact .inl hn
  · exact .inr ⟨g, cp, cur, rfl, hb, (hs g rfl).trans hg, rest⟩

theorem MI.apart (h : MI n0 N2 wr z L b r0 p k V) (hn : n0 + 1 < N2) (ha : Apart (N2 + 6) (N2 + 11) V V') : MI n0 N2 wr z L b r0 p k V' := by
  have hs := h.size
  have lo : ∀ i, i < N2 + 6 → V'.heap[i]? = V.heap[i]? := fun i hi => ha.block i (by omega) (.inl hi)
  obtain ⟨gv, hg1, hg2⟩ := h.got
  exact ⟨ha.os.trans h.os, ha.tape.trans h.tape, ha.output.trans h.output, Nat.le_trans hs ha.size, fun i hi hne => (lo i (by omega)).trans (h.old i hi hne), (lo _ (by omega)).trans h.pulled,
    (lo _ (by omega)).trans h.lim, (lo _ (by omega)).trans h.brk, ⟨gv, (lo _ (by omega)).trans hg1, own_block_same hg2 fun g e => by
      have := hg2.lt g e
      exact ha.block g this.2 (.inr this.1)⟩, (lo _ (by omega)).trans h.d0, (lo _ (by omega)).trans h.l0⟩

theorem MI.pull (h : MI n0 N2 wr z L b r0 p k V) (hn : n0 + 1 < N2) (p' : Int) : MI n0 N2 wr z L b r0 p' k (V.setCell ⟨n0 + 1, 0, none⟩ (.int .i64 p')) := by
  have lo : ∀ i, i ≠ n0 + 1 → (V.setCell ⟨n0 + 1, 0, none⟩ (.int .i64 p')).heap[i]? = V.heap[i]? := fun i hi => Below.heap_setCell _ _ _ _ hi
  obtain ⟨gv, hg1, hg2⟩ := h.got
  exact ⟨h.os, h.tape, h.output, by have := h.size; simpa [World.setCell] using this, fun i hi hne => (lo i hne).trans (h.old i hi hne), one_setCell h.pulled,
    (lo _ (by omega)).trans h.lim, (lo _ (by omega)).trans h.brk, ⟨gv, (lo _ (by omega)).trans hg1, own_block_same hg2 fun g e => by
      have := hg2.lt g e
      exact lo g (by omega)⟩, (lo _ (by omega)).trans h.d0, (lo _ (by omega)).trans h.l0⟩

theorem MI.putLoop (h : MI n0 N2 wr z L b r0 p k V) (hn : n0 + 1 < N2) (r0' : Loop) : MI n0 N2 wr z L b r0' p k (V.putObj (N2 + 5) (.loop r0')) := by
  have lo : ∀ i, i ≠ N2 + 5 → (V.putObj (N2 + 5) (.loop r0')).heap[i]? = V.heap[i]? := fun i hi => World.putObj_heap_other hi
  obtain ⟨gv, hg1, hg2⟩ := h.got
  exact ⟨h.os, h.tape, h.output, by have := h.size; simpa using this, fun i hi hne => (lo i (by omega)).trans (h.old i hi hne), (lo _ (by omega)).trans h.pulled,
    (lo _ (by omega)).trans h.lim, (lo _ (by omega)).trans h.brk, ⟨gv, (lo _ (by omega)).trans hg1, own_block_same hg2 fun g e => by
      have := hg2.lt g e
      exact lo g (by omega)⟩, (lo _ (by omega)).trans h.d0, World.putObj_heap_same (by have := h.size; omega)⟩

theorem MI.old_ (h : MI n0 N2 wr z L b r0 p k V) (hn : isNew z k = false) : MI n0 N2 wr z L b r0 p (k + 1) V := by
  obtain ⟨gv, hg1, hg2⟩ := h.got
  exact { h with got := ⟨gv, hg1, by rw [starts_old hn]; exact hg2⟩ }

/-- 'got = append(got, v)': the box that holds the slice is written behind the append. -/
theorem MI.append (h : MI n0 N2 wr z L b r0 p k V) (hn : n0 + 1 < N2) (hs : N2 + 11 ≤ V.heap.size) (hnew : isNew z k = true) {gv v' : Value} {o : Obj} {W' : World}
    (hg1 : V.heap[N2 + 2]? = some (.cells #[gv] 35 (0, 0))) (hg2 : V.ownsRow (N2 + 11) 37 1 gv (starts z k).length ((starts z k).map fun i => .int .i8 (z i)))
    (ho : W'.ownsRow (N2 + 11) 37 1 v' ((starts z k).length + 1) ((starts z k).map (fun i => .int .i8 (z i)) ++ [.int .i8 (z k)])) (hgr : (V.alloc o).grownBy W' gv.ownBlock) :
    MI n0 N2 wr z L b r0 p (k + 1) (W'.setCell ⟨N2 + 2, 0, none⟩ v') ∧ Keep (N2 + 6) (N2 + 11) V (W'.setCell ⟨N2 + 2, 0, none⟩ v') ∧
      W'.heap[N2 + 2]? = some (.cells #[gv] 35 (0, 0)) := by
  have lo1 : ∀ i, i < N2 + 11 → W'.heap[i]? = V.heap[i]? := fun i hi => by
    rw [hgr.block i (by simp; omega) (fun e => by have := (hg2.lt i e.symm).1; omega)]
    exact Below.heap_alloc _ _ _ (by omega)
  have lo : ∀ i, i < N2 + 11 → i ≠ N2 + 2 → (W'.setCell ⟨N2 + 2, 0, none⟩ v').heap[i]? = V.heap[i]? := fun i hi hne => (Below.heap_setCell _ _ _ _ hne).trans (lo1 i hi)
  refine ⟨⟨hgr.os.trans h.os, hgr.tape.trans h.tape, hgr.output.trans h.output, ?_, fun i hi hne => (lo i (by omega) (by omega)).trans (h.old i hi hne), (lo _ (by omega) (by omega)).trans h.pulled,
    (lo _ (by omega) (by omega)).trans h.lim, (lo _ (by omega) (by omega)).trans h.brk, ⟨v', one_setCell ((lo1 _ (by omega)).trans hg1), ?_⟩, (lo _ (by omega) (by omega)).trans h.d0, (lo _ (by omega) (by omega)).trans h.l0⟩, fun i h1 h2 => lo i h2 (by omega), (lo1 _ (by omega)).trans hg1⟩
  · have := hgr.size
    simp [World.setCell] at this ⊢
    omega
  · rw [starts_new hnew]
    refine own_block_same (V := W') (by simpa using ho) fun g e => Below.heap_setCell _ _ _ _ (by have := (ho.lt g e).1; simp; omega)
end

/-- What the iterators are told. -/
theorem MI.facts {w : World} {N2 : Nat} {wr : World} {z : Nat → Int} {L : Int} {b : Bool} {r0 : Loop} {p : Int} {k : Nat} {V : World} {a : Option Addr} {len cap : Nat}
    (h : MI w.heap.size N2 wr z L b r0 p k V) (hn : w.heap.size + 1 < N2) (hx0 : wr.heap[w.heap.size]? = some (.cells #[.slice a len cap] 35 (0, 0))) (hold : ∀ i, i < w.heap.size → wr.heap[i]? = w.heap[i]?)
    (hel : ∀ j, j < len → ∃ b off, a = some ⟨b, off, none⟩ ∧ w.cell? ⟨b, off + j, none⟩ = some (.int .i8 (z j))) :
    V.cell? ⟨w.heap.size, 0, none⟩ = some (.slice a len cap) ∧ V.cell? ⟨w.heap.size + 1, 0, none⟩ = some (.int .i64 p) ∧ V.frozen? ⟨w.heap.size + 1, 0, none⟩ = false ∧
      (∀ j, j < len → ∃ b off, a = some ⟨b, off, none⟩ ∧ V.cell? ⟨b, off + j, none⟩ = some (.int .i8 (z j))) := by
  refine ⟨cell_of_one ((h.old _ (by omega) (by omega)).trans hx0), cell_of_one h.pulled, free_of_one h.pulled, fun j hj => ?_⟩
  obtain ⟨b, off, e, hc⟩ := hel j hj
  have hb : b < w.heap.size := World.block_lt_of_cell? w _ hc
  refine ⟨b, off, e, ?_⟩
  rw [← hc]
  exact World.cell?_of_block ((h.old b (by omega) (by omega)).trans (hold b hb))

/-- At the return: nothing old has turned. -/
theorem MI.shut {w : World} {N2 : Nat} {wr : World} {z : Nat → Int} {L : Int} {b : Bool} {r0 : Loop} {p : Int} {k : Nat} {V : World} (h : MI w.heap.size N2 wr z L b r0 p k V) (hn : w.heap.size + 1 < N2)
    (hw : Below w.heap.size w wr) (n : Nat) : (Instr.takeDeferred (N2 + 4)).run Yba.prog (V.drewN n) = .ok [] ((V.drewN n).putObj (N2 + 4) (.deferred none)) ∧ Below w.heap.size w ((V.drewN n).putObj (N2 + 4) (.deferred none)) := by
  have hs := h.size
  refine ⟨run_takeDeferred h.d0, h.os.trans hw.os, h.tape.trans hw.tape, h.output.trans hw.output, ?_, fun i hi => ?_⟩
  · rw [World.putObj_size]
    show w.heap.size ≤ V.heap.size
    omega
  · rw [World.putObj_heap_other (by omega)]
    exact (h.old i (by omega) (by omega)).trans (hw.block i hi)

/-- Where the range begins. -/
theorem MI.start {n0 : Nat} {wr : World} {z : Nat → Int} (L : Int) (b : Bool) (sv : Value) (r0 : Loop) (hn : n0 + 1 < wr.heap.size) (hp : wr.heap[n0 + 1]? = some (.cells #[.int .i64 0] 3 (0, 0))) :
    MI n0 wr.heap.size wr z L b r0 0 0 ((((((wr.alloc (.cells #[.int .i64 L] 3)).alloc (.cells #[.bool b] 4)).alloc (.cells #[.slice none 0 0] 35)).alloc (.cells #[sv] 39)).alloc (.deferred (some []))).alloc (.loop r0)) ∧
    ((((((wr.alloc (.cells #[.int .i64 L] 3)).alloc (.cells #[.bool b] 4)).alloc (.cells #[.slice none 0 0] 35)).alloc (.cells #[sv] 39)).alloc (.deferred (some []))).alloc (.loop r0)).heap[wr.heap.size + 3]? = some (.cells #[sv] 39 (0, 0)) ∧
    ((((((wr.alloc (.cells #[.int .i64 L] 3)).alloc (.cells #[.bool b] 4)).alloc (.cells #[.slice none 0 0] 35)).alloc (.cells #[sv] 39)).alloc (.deferred (some []))).alloc (.loop r0)).heap.size = wr.heap.size + 6 := by
  have e : ((((((wr.alloc (.cells #[.int .i64 L] 3)).alloc (.cells #[.bool b] 4)).alloc (.cells #[.slice none 0 0] 35)).alloc (.cells #[sv] 39)).alloc (.deferred (some []))).alloc (.loop r0)).heap =
      (((((wr.heap.push (.cells #[.int .i64 L] 3 (0, 0))).push (.cells #[.bool b] 4 (0, 0))).push (.cells #[.slice none 0 0] 35 (0, 0))).push (.cells #[sv] 39 (0, 0))).push (.deferred (some []))).push (.loop r0) := rfl
  refine ⟨⟨rfl, rfl, rfl, ?_, ?_, ?_, ?_, ?_, ⟨.slice none 0 0, ?_, ?_⟩, ?_, ?_⟩, ?_, ?_⟩
  · rw [e]; simp
  · intro i hi _
    rw [e]
    simp only [Array.getElem?_push, Array.size_push]
    repeat rw [if_neg (by omega)]
  · rw [e]
    simp only [Array.getElem?_push, Array.size_push]
    repeat rw [if_neg (by omega)]
    exact hp
  · rw [e]
    simp only [Array.getElem?_push, Array.size_push]
    rw [if_neg (by omega), if_neg (by omega), if_neg (by omega), if_neg (by omega), if_neg (by omega), if_pos trivial]
  · rw [e]
    simp only [Array.getElem?_push, Array.size_push]
    simp
  · rw [e]
    simp only [Array.getElem?_push, Array.size_push]
    simp
  · exact World.ownsRow_nil _ _ _ _
  · rw [e]
    simp only [Array.getElem?_push, Array.size_push]
    simp
  · rw [e]
    simp only [Array.getElem?_push, Array.size_push]
    simp
  · rw [e]
    simp only [Array.getElem?_push, Array.size_push]
    simp
  · rw [e]; simp
end Go.Proofs.Ybulkcglg
