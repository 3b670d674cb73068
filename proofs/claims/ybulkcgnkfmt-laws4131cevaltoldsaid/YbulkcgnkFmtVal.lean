import Derived.Test.YbulkcgnkFmtSum
import Derived.Deep.AppendLies
import Derived.Deep.RegionLaw
import Derived.Deep.DrawnRows
import Derived.BigQuiet
namespace Go.Proofs.YbulkcgnkFmt
open Go.RowKit Go.Extern.Stop Go.Stop Go.Extern
attribute [local go_sem ↓] Go.wp_at_zero Go.wp_at_succ

/-- The values, as the argument has them. -/
def InV (w : World) (a : Option Addr) (len : Nat) (g : Nat → Int × Bool) : Prop :=
  ∀ j, j < len → ∃ b off, a = some ⟨b, off, none⟩ ∧ I64 (g j).1 ∧ w.cell? ⟨b, off + j * 2, none⟩ = some (.int .i64 (g j).1) ∧ w.cell? ⟨b, off + j * 2 + 1, none⟩ = some (.bool (g j).2)
/-- An item's value. -/
def vv (len : Nat) (g : Nat → Int × Bool) (it : Nat) : Int × Bool := if it < len then g it else ((it : Int) - 3, true)
theorem vv_i64 {w : World} {a : Option Addr} {len : Nat} {g : Nat → Int × Bool} (h : InV w a len g) {it : Nat} (hit : it < 256) : I64 (vv len g it).1 := by
  unfold vv
  split
  · rename_i hlt
    obtain ⟨_, _, _, hi, _⟩ := h it hlt
    exact hi
  · constructor <;> simp <;> omega

set_option maxHeartbeats 1000000 in
theorem val_any (w : World) (a : Option Addr) (len cap it : Nat) (g : Nat → Int × Bool) (hI : InV w a len g) (hit : it < 256) :
    Calls Ybaf.prog 5 #[.slice a len cap, .int .i64 (it : Int)] w fun e w' => e = .returned (.agg #[.int .i64 (vv len g it).1, .bool (vv len g it).2]) ∧ Below w.heap.size w w' := by
  by_cases hlt : it < len
  · obtain ⟨b, off, rfl, -, c0, c1⟩ := hI it hlt
    have e : vv len g it = g it := by simp [vv, hlt]
    rw [e]
    have i0 : (0 : Int) ≤ (it : Int) := by omega
    have i1 : (it : Int) < (len : Int) := by omega
    obtain ⟨x, hx⟩ : ∃ x, (g it).1 = x := ⟨_, rfl⟩
    obtain ⟨k, hk⟩ : ∃ k, (g it).2 = k := ⟨_, rfl⟩
    rw [hx] at c0 ⊢
    rw [hk] at c1 ⊢
    have hb := World.block_lt_of_cell? w _ c0
    clear hI e hx hk
    go_enter Ybaf.func5, Ybaf.ntmps5
    go_wp2
    go_region
    all_goals
      go_wp2
      refine bodyPost_ret (v := .agg #[.int .i64 x, .bool k]) (by simp [results, Ybaf.results5, go_sem]) rfl ?_
      exact ⟨rfl, ((Below.refl _ w).alloc (Nat.le_refl _) _).drew⟩
  · have e : vv len g it = ((it : Int) - 3, true) := by simp [vv, hlt]
    rw [e]
    have i0 : (0 : Int) ≤ (it : Int) := by omega
    have i1 : decide (it < len) = false := by simp; omega
    have hw : IntKind.i64.wrap ((it : Int) - 3) = (it : Int) - 3 := by rw [IntKind.wrap_i64]; omega
    clear hI e hlt
    go_enter Ybaf.func5, Ybaf.ntmps5
    go_wp2
    refine bodyPost_ret (v := .agg #[.int .i64 ((it : Int) - 3), .bool true]) (by simp [results, Ybaf.results5, go_sem]) rfl ?_
    exact ⟨rfl, (Below.refl _ w).alloc (Nat.le_refl _) _⟩

/-! ### The closure -/
def vals (l : List Nat) : List Value := l.map fun (x : Nat) => .int .i64 (x : Int)
theorem vals_snoc (l : List Nat) (x : Nat) : vals (l ++ [x]) = vals l ++ [.int .i64 (x : Int)] := by simp [vals]
theorem hide {p : Prop} (h : p) : Hid p := h
theorem info3 : (Ybaf.prog.info? 3).map (fun i => (i.zero, i.size, i.bytes)) = some (some (.int .i64 0), 1, 8) := by kernel_rfl
/-- What has turned: new blocks, block L, one row. -/
structure Chg (w w' : World) (L : Nat) (row : Option Nat) : Prop where
  os : w'.os = w.os
  tape : w'.tape = w.tape
  output : w'.output = w.output
  size : w.heap.size ≤ w'.heap.size
  block : ∀ j, j < w.heap.size → j ≠ L → row ≠ some j → w'.heap[j]? = w.heap[j]?
theorem cell_alloc_some {W : World} {a : Addr} {v : Value} {o : Obj} (h : W.cell? a = some v) : (W.alloc o).cell? a = some v :=
  (World.cell?_of_block (Below.heap_alloc _ _ _ (World.block_lt_of_cell? W _ h))).trans h
/-- Behind the append onto the log. -/
theorem log_push {B L g c H it k : Nat} {w W w1 : World} {o : Obj} {lv : Value} {items : List Nat} (hL : W.heap[L]? = some (.cells #[lv] 29 (0, 0))) (hown : W.ownsRow B 3 1 lv k (vals items)) (hw : Below w.heap.size w W)
    (ho : w1.ownsRow B 3 1 (.slice (some ⟨g, 0, none⟩) (k + 1) c) (k + 1) (vals items ++ [.int .i64 (it : Int)])) (hg : (W.alloc o).grownBy w1 lv.ownBlock) (hat : lv.ownBlock = some g ∨ g = H) (hH : W.heap.size + 1 = H) :
    w1.cell? ⟨L, 0, none⟩ = some lv ∧ w1.frozen? ⟨L, 0, none⟩ = false ∧ Hid ((w1.setCell ⟨L, 0, none⟩ (.slice (some ⟨g, 0, none⟩) (k + 1) c)).heap[L]? = some (.cells #[.slice (some ⟨g, 0, none⟩) (k + 1) c] 29 (0, 0)) ∧
      (w1.setCell ⟨L, 0, none⟩ (.slice (some ⟨g, 0, none⟩) (k + 1) c)).ownsRow B 3 1 (.slice (some ⟨g, 0, none⟩) (k + 1) c) (k + 1) (vals (items ++ [it])) ∧ Chg w (w1.setCell ⟨L, 0, none⟩ (.slice (some ⟨g, 0, none⟩) (k + 1) c)) L lv.ownBlock) := by
  have hLlt : L < W.heap.size := (Array.getElem?_eq_some_iff.1 hL).1
  have hne : lv.ownBlock ≠ some L := by
    intro e
    rcases hown.2 with ⟨rfl, _⟩ | ⟨g', cp, cur, rfl, _, hg', _⟩
    · cases e
    · simp [Value.ownBlock] at e; subst e; rw [hL] at hg'; simp at hg'
  have hL1 : w1.heap[L]? = some (.cells #[lv] 29 (0, 0)) := (hg.block L (by simp; omega) (fun e => hne e.symm)).trans ((Below.heap_alloc _ _ _ hLlt).trans hL)
  have hgL : g ≠ L := by
    rintro rfl
    rcases hat with e | e
    · exact hne e
    · omega
  refine ⟨by simp [World.cell?, hL1], by simp [World.frozen?, hL1], ?_, ?_, ?_⟩
  · have := heap_setCell_same w1 L 0 _ 29 (.slice (some ⟨g, 0, none⟩) (k + 1) c) hL1
    rw [this]; rfl
  · rw [vals_snoc]
    exact ownsRow_setCell_other ho (by simp [Value.ownBlock]; exact hgL) _
  · have hb1 : Below w.heap.size w (W.alloc o) := hw.alloc hw.size o
    exact ⟨hg.os.trans hb1.os, hg.tape.trans hb1.tape, hg.output.trans hb1.output, Nat.le_trans hb1.size (Nat.le_trans hg.size (by simp)), fun j hj hjL hr => (Below.heap_setCell _ _ _ _ hjL).trans ((hg.block j (by simp; have := hw.size; omega) (fun e => hr e.symm)).trans (hb1.block j hj))⟩
theorem Chg.below {w w1 w2 : World} {L : Nat} {row : Option Nat} (h : Chg w w1 L row) (hb : Below w1.heap.size w1 w2) : Chg w w2 L row :=
  ⟨hb.os.trans h.os, hb.tape.trans h.tape, hb.output.trans h.output, Nat.le_trans h.size hb.size, fun j hj a b => (hb.block j (Nat.lt_of_lt_of_le hj h.size)).trans (h.block j hj a b)⟩

/-- A block of another kind than the log's is as it was. -/
theorem Chg.keep {w w' : World} {L R B k t : Nat} {lv : Value} {xs : List Value} {c : Array Value} {fr : Nat × Nat} (h : Chg w w' L lv.ownBlock) (hown : w.ownsRow B 3 1 lv k xs) (hR : w.heap[R]? = some (.cells c t fr)) (ht : t ≠ 3) (hRL : R ≠ L) : w'.heap[R]? = some (.cells c t fr) := by
  refine (h.block R (Array.getElem?_eq_some_iff.1 hR).1 hRL ?_).trans hR
  intro e
  rcases hown.2 with ⟨rfl, _⟩ | ⟨g', cp, cur, rfl, _, hg', _⟩
  · cases e
  · simp [Value.ownBlock] at e; subst e; rw [hR] at hg'; simp at hg'; exact ht hg'.2.1
theorem pair_cells {W : World} {R t : Nat} {x y : Value} (h : W.heap[R]? = some (.cells #[x, y] t (0, 0))) : W.cell? ⟨R, 0, none⟩ = some x ∧ W.cell? ⟨R, 1, none⟩ = some y ∧ W.frozen? ⟨R, 0, none⟩ = false ∧ W.frozen? ⟨R, 1, none⟩ = false := by
  refine ⟨?_, ?_, ?_, ?_⟩ <;> simp [World.cell?, World.frozen?, h]
theorem InV.same {w w' : World} {a : Option Addr} {len : Nat} {g : Nat → Int × Bool} (h : InV w a len g) (hs : ∀ b off, a = some ⟨b, off, none⟩ → 0 < len → w'.heap[b]? = w.heap[b]?) : InV w' a len g := by
  intro j hj
  obtain ⟨b, off, ha, hi, c0, c1⟩ := h j hj
  have e := hs b off ha (by omega)
  exact ⟨b, off, ha, hi, (World.cell?_of_block (a := ⟨b, off + j * 2, none⟩) e).trans c0, (World.cell?_of_block (a := ⟨b, off + j * 2 + 1, none⟩) e).trans c1⟩
theorem InV.lt {w : World} {a : Option Addr} {len : Nat} {g : Nat → Int × Bool} (h : InV w a len g) {b off : Nat} (ha : a = some ⟨b, off, none⟩) (hl : 0 < len) : b < w.heap.size := by
  obtain ⟨b', off', ha', _, c0, _⟩ := h 0 hl
  rw [ha] at ha'
  simp at ha'
  obtain ⟨rfl, rfl⟩ := ha'
  exact World.block_lt_of_cell? w _ c0

theorem pair_set {W : World} {R t : Nat} {x y x' y' : Value} (h : W.heap[R]? = some (.cells #[x, y] t (0, 0))) : ((W.setCell ⟨R, 0, none⟩ x').setCell ⟨R, 1, none⟩ y').heap[R]? = some (.cells #[x', y'] t (0, 0)) := by
  have h1 := heap_setCell_same W R 0 _ t x' h
  have h2 := heap_setCell_same _ R 1 _ t y' h1
  rw [h2]; rfl
/-- The closure's end: its result is laid. -/
theorem log_end {B L R k : Nat} {w W w3 : World} {lv lv' x y x' y' : Value} {xs : List Value} (hLn : W.heap[L]? = some (.cells #[lv'] 29 (0, 0))) (ho : W.ownsRow B 3 1 lv' k xs) (hc : Chg w W L lv.ownBlock) (hb : Below W.heap.size W w3) (hR : w3.heap[R]? = some (.cells #[x, y] 31 (0, 0))) (hRw : w.heap.size ≤ R) :
    ((w3.setCell ⟨R, 0, none⟩ x').setCell ⟨R, 1, none⟩ y').heap[L]? = some (.cells #[lv'] 29 (0, 0)) ∧ ((w3.setCell ⟨R, 0, none⟩ x').setCell ⟨R, 1, none⟩ y').ownsRow B 3 1 lv' k xs ∧ Chg w ((w3.setCell ⟨R, 0, none⟩ x').setCell ⟨R, 1, none⟩ y') L lv.ownBlock := by
  have hL3 : w3.heap[L]? = some (.cells #[lv'] 29 (0, 0)) := (hb.block L (Array.getElem?_eq_some_iff.1 hLn).1).trans hLn
  have ho3 : w3.ownsRow B 3 1 lv' k xs := by
    refine ⟨ho.1, ?_⟩
    rcases ho.2 with hn | ⟨g, cp, cur, rfl, hb', hg, rest⟩
    · exact .inl hn
    · exact .inr ⟨g, cp, cur, rfl, hb', (hb.block g (Array.getElem?_eq_some_iff.1 hg).1).trans hg, rest⟩
  have hRL : L ≠ R := by rintro rfl; rw [hR] at hL3; simp at hL3
  have hRo : lv'.ownBlock ≠ some R := by
    intro e
    rcases ho3.2 with ⟨rfl, _⟩ | ⟨g', cp, cur, rfl, _, hg', _⟩
    · cases e
    · simp [Value.ownBlock] at e; subst e; rw [hR] at hg'; simp at hg'
  have hc3 := hc.below hb
  refine ⟨(Below.heap_setCell _ _ _ _ hRL).trans ((Below.heap_setCell _ _ _ _ hRL).trans hL3), ownsRow_setCell_other (ownsRow_setCell_other ho3 hRo _) hRo _, ?_⟩
  exact ⟨hc3.os, hc3.tape, hc3.output, Nat.le_trans hc3.size (by simp), fun j hj h1 h2 => (Below.heap_setCell _ _ _ _ (by simp; omega)).trans ((Below.heap_setCell _ _ _ _ (by simp; omega)).trans (hc3.block j hj h1 h2))⟩

/-- All that the closure's second statement finds. -/
theorem log_all {B L Vb g1 cc it k len cap : Nat} {w w1 : World} {o : Obj} {a : Option Addr} {g : Nat → Int × Bool} {lv : Value} {items : List Nat} (hI : InV w a len g)
    (hL : w.heap[L]? = some (.cells #[lv] 29 (0, 0))) (hV : w.heap[Vb]? = some (.cells #[.slice a len cap] 23 (0, 0))) (hown : w.ownsRow B 3 1 lv k (vals items))
    (hIL : ∀ b off, a = some ⟨b, off, none⟩ → 0 < len → b ≠ L ∧ lv.ownBlock ≠ some b)
    (ho : w1.ownsRow B 3 1 (.slice (some ⟨g1, 0, none⟩) (k + 1) cc) (k + 1) (vals items ++ [.int .i64 (it : Int)])) (hg : ((w.alloc (.cells #[.int .i64 0, .bool false] 31)).alloc o).grownBy w1 lv.ownBlock) (hat : lv.ownBlock = some g1 ∨ g1 = w.heap.size + 1 + 1) :
    (w1.cell? ⟨L, 0, none⟩ = some lv ∧ w1.frozen? ⟨L, 0, none⟩ = false ∧ w1.cell? ⟨Vb, 0, none⟩ = some (.slice a len cap)) ∧
    Hid (((w1.setCell ⟨L, 0, none⟩ (.slice (some ⟨g1, 0, none⟩) (k + 1) cc)).heap[L]? = some (.cells #[.slice (some ⟨g1, 0, none⟩) (k + 1) cc] 29 (0, 0)) ∧
      (w1.setCell ⟨L, 0, none⟩ (.slice (some ⟨g1, 0, none⟩) (k + 1) cc)).ownsRow B 3 1 (.slice (some ⟨g1, 0, none⟩) (k + 1) cc) (k + 1) (vals (items ++ [it])) ∧ Chg w (w1.setCell ⟨L, 0, none⟩ (.slice (some ⟨g1, 0, none⟩) (k + 1) cc)) L lv.ownBlock) ∧
      InV (w1.setCell ⟨L, 0, none⟩ (.slice (some ⟨g1, 0, none⟩) (k + 1) cc)) a len g ∧ (w1.setCell ⟨L, 0, none⟩ (.slice (some ⟨g1, 0, none⟩) (k + 1) cc)).heap[w.heap.size]? = some (.cells #[.int .i64 0, .bool false] 31 (0, 0))) ∧ L ≠ Vb := by
  have hLlt : L < w.heap.size := (Array.getElem?_eq_some_iff.1 hL).1
  have hVL : Vb ≠ L := by rintro rfl; rw [hL] at hV; simp at hV
  obtain ⟨r1, r2, r3⟩ := log_push (w := w) (W := w.alloc (.cells #[.int .i64 0, .bool false] 31)) ((Below.heap_alloc _ _ _ hLlt).trans hL) (hown.alloc _) ((Below.refl _ _).alloc (Nat.le_refl _) _) ho hg hat (by simp)
  have hch := r3.out.2.2
  have hV2 := hch.keep hown hV (by decide) hVL
  have hV1 : w1.cell? ⟨Vb, 0, none⟩ = some (.slice a len cap) := by
    have := cell_of_one hV2
    rw [World.cell?_of_block (w := w1) (w' := w1.setCell _ _) (a := ⟨Vb, 0, none⟩) (Below.heap_setCell _ _ _ _ hVL)] at this
    exact this
  refine ⟨⟨r1, r2, hV1⟩, ⟨r3.out, hI.same fun b off ha hl => hch.block b (hI.lt ha hl) (hIL b off ha hl).1 (hIL b off ha hl).2, ?_⟩, fun e => hVL e.symm⟩
  have hR : ((w.alloc (.cells #[.int .i64 0, .bool false] 31)).alloc o).heap[w.heap.size]? = some (.cells #[.int .i64 0, .bool false] 31 (0, 0)) := (Below.heap_alloc _ _ _ (by simp)).trans (heap_alloc_new w _)
  refine (Below.heap_setCell _ _ _ _ (by simp; omega)).trans ((hg.block _ (by simp; omega) (fun e => ?_)).trans hR)
  have := (hown.lt _ e.symm).2
  omega

set_option maxHeartbeats 1000000 in
theorem closure_any (w : World) (B L Vb : Nat) (a : Option Addr) (len cap it k : Nat) (g : Nat → Int × Bool) (lv : Value) (items : List Nat) (hI : InV w a len g) (hit : it < 256)
    (hL : w.heap[L]? = some (.cells #[lv] 29 (0, 0))) (hV : w.heap[Vb]? = some (.cells #[.slice a len cap] 23 (0, 0))) (hown : w.ownsRow B 3 1 lv k (vals items)) (hk : k ≤ 2000) (hB : B ≤ w.heap.size)
    (hIL : ∀ b off, a = some ⟨b, off, none⟩ → 0 < len → b ≠ L ∧ lv.ownBlock ≠ some b) :
    Calls Ybaf.prog 4 #[.int .i64 (it : Int), .pointer (some ⟨L, 0, none⟩), .pointer (some ⟨Vb, 0, none⟩)] w fun e w' => e = .returned (.agg #[.int .i64 (vv len g it).1, .bool (vv len g it).2]) ∧
      ∃ lv', w'.heap[L]? = some (.cells #[lv'] 29 (0, 0)) ∧ w'.ownsRow B 3 1 lv' (k + 1) (vals (items ++ [it])) ∧ Chg w w' L lv.ownBlock := by
  obtain ⟨i3, hi3, hz3, hs3, hb3⟩ := info_parts info3
  have c1 : w.cell? ⟨L, 0, none⟩ = some lv := cell_of_one hL
  have c1' := fun o => cell_alloc_some (o := o) c1
  have HL := hide hL
  have HO := hide hown
  have HI := hide hI
  have HV := hide hV
  have HIL := hide hIL
  clear hI hL hV hown hIL
  go_enter Ybaf.func4, Ybaf.ntmps4
  go_wp2_with (first
    | (at_builtin; refine wpList_append_lies _ rfl (.tmp 5) (.tmp 7) 29 rfl B 3 i3 (.int .i64 0) 1 8 Ybaf.underlying29 hi3 hz3 hs3 hb3 rfl (by decide) lv k _ rfl ((HO.out.alloc _).alloc _) ⟨w.heap.size + 1, 0, none⟩ 1 1 [.int .i64 (it : Int)] rfl rfl (by simpa using cell_one_new (w.alloc _) _ _) (by simp [Value.oneCell']) (by omega) (by unfold maxLen; omega) (by omega) (by simp; omega) (w.heap.size + 1 + 1) (by simp) ?_; intro g1 cc w1 hown1 hgrow1 hat1 hlt1; obtain ⟨⟨x1, x2, x3⟩, HQ, hne⟩ := log_all HI.out HL.out HV.out HO.out HIL.out hown1 hgrow1 hat1; clear hown1 hgrow1 hat1 c1 c1')
    | (go_at_call 5; refine (val_any _ a len cap it g HQ.out.2.1 hit).mono ?_; rintro _ w3 ⟨rfl, hB3⟩; have hR3 := (hB3.block _ (Array.getElem?_eq_some_iff.1 HQ.out.2.2).1).trans HQ.out.2.2; obtain ⟨y1, y2, y3, y4⟩ := pair_cells hR3; have HR3 := hide hR3; have HB3 := hide hB3; clear hR3 hB3))
  obtain ⟨z1, z2, _, _⟩ := pair_cells (pair_set (x' := .int .i64 (vv len g it).1) (y' := .bool (vv len g it).2) HR3.out)
  have hq := HQ.out
  refine bodyPost_ret (v := .agg #[.int .i64 (vv len g it).1, .bool (vv len g it).2]) (by simp [results, Ybaf.results4, go_sem, z1, z2]) rfl ?_
  exact ⟨rfl, _, log_end hq.1.1 hq.1.2.1 hq.1.2.2 HB3.out HR3.out (Nat.le_refl _)⟩
end Go.Proofs.YbulkcgnkFmt
