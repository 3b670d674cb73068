import Derived.Test.YbulkcglgInit
import Derived.Test.YbulkcglgShape
import Derived.Deep.RegionHeld3
import Derived.Deep.AppendLies
import Derived.Deep.RegionLaw
import Derived.Deep.DrawnRows
namespace Go.Proofs.Ybulkcglg
open Go.RowKit HeapLaw

def pcells (z : Nat → Int) (k : Nat) : List Value := (List.range k).flatMap fun i => [.int .i64 (z i), .int .i64 (i : Int)]
theorem pcells_succ (z : Nat → Int) (k : Nat) : pcells z (k + 1) = pcells z k ++ [.int .i64 (z k), .int .i64 (k : Int)] := by
  simp [pcells, List.range_succ]

theorem cell_alloc_some' {W : World} {a : Addr} {v : Value} {o : Obj} (h : W.cell? a = some v) : (W.alloc o).cell? a = some v := by
  rw [← h]
  exact World.cell?_of_block (Below.heap_alloc W o a.block (World.block_lt_of_cell? W a h))

/-- Behind one append to h.heads. -/
theorem push_world {w wr w1 : World} {v : Value} {z : Nat → Int} {k g cp : Nat} {o : Obj} (hH : wr.heap[w.heap.size]? = some (.cells #[cmpF, v] 30 (0, 0))) (hown : wr.ownsRow (w.heap.size + 1) 27 2 v k (pcells z k))
    (hB : Below w.heap.size w wr) (hown1 : w1.ownsRow (w.heap.size + 1) 27 2 (.slice (some ⟨g, 0, none⟩) (k + 1) cp) (k + 1) (pcells z k ++ [.int .i64 (z k), .int .i64 (k : Int)])) (hgrow : (wr.alloc o).drew.grownBy w1 v.ownBlock) :
    (w1.setCell ⟨w.heap.size, 1, none⟩ (.slice (some ⟨g, 0, none⟩) (k + 1) cp)).heap[w.heap.size]? = some (.cells #[cmpF, .slice (some ⟨g, 0, none⟩) (k + 1) cp] 30 (0, 0)) ∧
    (w1.setCell ⟨w.heap.size, 1, none⟩ (.slice (some ⟨g, 0, none⟩) (k + 1) cp)).ownsRow (w.heap.size + 1) 27 2 (.slice (some ⟨g, 0, none⟩) (k + 1) cp) (k + 1) (pcells z (k + 1)) ∧
    Below w.heap.size w (w1.setCell ⟨w.heap.size, 1, none⟩ (.slice (some ⟨g, 0, none⟩) (k + 1) cp)) := by
  have hlt : w.heap.size < wr.heap.size := (Array.getElem?_eq_some_iff.1 hH).1
  have h1 : w1.heap[w.heap.size]? = some (.cells #[cmpF, v] 30 (0, 0)) := by
    rw [hgrow.block w.heap.size (by simp; omega) (fun e => by have := (hown.lt _ e.symm).1; omega)]
    exact (Below.heap_alloc wr o _ hlt).trans hH
  refine ⟨?_, ?_, ?_⟩
  · simp [World.setCell, Array.getElem?_modify, h1]
  · rw [pcells_succ]
    exact ownsRow_setCell_below hown1 (by simp) _
  · refine Below.setCell (p := ⟨w.heap.size, 1, none⟩) ?_ (Nat.le_refl _) _
    refine ((hB.alloc hB.size o).drew).grown hgrow (by have := hB.size; simp; omega) (fun j e => ?_)
    have := (hown.lt j e).1
    omega

theorem pcells_len (z : Nat → Int) : ∀ k, (pcells z k).length = k * 2
  | 0 => rfl
  | k + 1 => by rw [pcells_succ, List.length_append, pcells_len z k]; simp; omega
theorem pcells_get (z : Nat → Int) : ∀ k i, i < k * 2 → (pcells z k)[i]? = some (pr (fun j => (z j, (j : Int))) i)
  | 0, i, h => by omega
  | k + 1, i, h => by
    rw [pcells_succ]
    by_cases hi : i < k * 2
    · rw [List.getElem?_append_left (by rw [pcells_len]; exact hi)]
      exact pcells_get z k i hi
    · rw [List.getElem?_append_right (by rw [pcells_len]; omega), pcells_len]
      have : i = k * 2 ∨ i = k * 2 + 1 := by omega
      rcases this with rfl | rfl
      · rw [pr_even]; simp
      · rw [pr_odd]; simp

theorem prs_of_own {w : World} {B n g cp : Nat} {z : Nat → Int} (h : w.ownsRow B 27 2 (.slice (some ⟨g, 0, none⟩) n cp) n (pcells z n)) : Prs w g 27 n (fun j => (z j, (j : Int))) := by
  rcases h.2 with ⟨e, _⟩ | ⟨g', cap, cur, e, hb, hg, hn, _, hs, ht⟩
  · cases e
  · simp at e
    obtain ⟨rfl, rfl⟩ := e
    refine ⟨cur, hg, by rw [hs]; exact Nat.mul_le_mul_right _ hn, fun i hi => ?_⟩
    have := pcells_get z n i hi
    rw [← ht, List.getElem?_take, if_pos hi] at this
    simpa using this

/-- 'out = append(out, p)' within the capacity. -/
theorem run_out (W : World) (O q len : Nat) (ty : TypeId) (f : Nat → Int × Int) (hO : Prs W O 27 len f) (hq : q < len) (a : Addr) (x y : Int) (h0 : W.cell? (a.add 0) = some (.int .i64 x)) (h1 : W.cell? (a.add 1) = some (.int .i64 y)) :
    ∃ W', (Builtin.append_ #[23, 23] ty #[.slice (some ⟨O, 0, none⟩) q len, .slice (some a) 1 1]).run Yba.prog W = .ok (.slice (some ⟨O, 0, none⟩) (q + 1) len) W' ∧
      Prs W' O 27 len (fun i => if i = q then (x, y) else f i) ∧ Touch [O] W W' := by
  obtain ⟨i27, hi27, _, hs27, _⟩ := info_parts Yba.info27
  obtain ⟨c, hb, hn, hc⟩ := hO
  have hr := run_append_room (P := Yba.prog) W 23 ty 27 i27 Yba.underlying23 hi27 O q len c hb a 1 1 [.int .i64 x, .int .i64 y] (by rw [hs27]; rfl)
    (by intro j u hj; match j, hj with | 0, hj => (simp at hj; subst hj; exact h0) | 1, hj => (simp at hj; subst hj; exact h1)) (by simp [Value.oneCell']) (by omega) (by rw [hs27]; simp; omega)
  rw [hs27] at hr
  refine ⟨_, hr, ⟨_, setRow_heap W O c _ 27 _ hb, ?_, ?_⟩, ?_⟩
  · simp
    omega
  · intro i hi
    have hlt : (List.take (q * 2) c.toList).length = q * 2 := by simp; omega
    by_cases l1 : i < q * 2
    · have : ((List.take (q * 2) c.toList ++ [Value.int .i64 x, .int .i64 y] ++ List.drop (q * 2 + [Value.int .i64 x, .int .i64 y].length) c.toList).toArray)[i]? = c[i]? := by
        rw [List.getElem?_toArray, List.append_assoc, List.getElem?_append_left (by omega), List.getElem?_take, if_pos l1]
        simp
      rw [this, hc i hi]
      have e2 : ¬ i / 2 = q := by omega
      simp only [pr, if_neg e2]
    · by_cases l2 : i < q * 2 + 2
      · have hi' : i = q * 2 ∨ i = q * 2 + 1 := by omega
        rw [List.getElem?_toArray, List.append_assoc, List.getElem?_append_right (by omega), hlt]
        rcases hi' with rfl | rfl
        · rw [pr_even]; simp
        · rw [pr_odd]; simp
      · have : ((List.take (q * 2) c.toList ++ [Value.int .i64 x, .int .i64 y] ++ List.drop (q * 2 + [Value.int .i64 x, .int .i64 y].length) c.toList).toArray)[i]? = c[i]? := by
          rw [List.getElem?_toArray, List.append_assoc, List.getElem?_append_right (by omega), hlt, List.getElem?_append_right (by simp; omega), List.getElem?_drop]
          simp
          congr 1
          omega
        rw [this, hc i hi]
        have e2 : ¬ i / 2 = q := by omega
        simp only [pr, if_neg e2]
  · refine ⟨rfl, rfl, rfl, by simp, fun k hk hne => setRow_other W O k _ ?_⟩
    simpa using hne

theorem wpList_out {ops : Array Oper} {rest : List Oper} {o : Oper} {a : Act} {Q : Exit → Act → World → Prop} (w : World) (hgd : o.guard = none) (s x : Operand)
    (ho : o.op = .call { callee := .builtin .append, args := #[s, x], argTypes := #[23, 23] }) (O q len : Nat) (f : Nat → Int × Int) (hs : a.eval s = .slice (some ⟨O, 0, none⟩) q len) (hO : Prs w O 27 len f) (hq : q < len)
    (ad : Addr) (u v : Int) (hx : a.eval x = .slice (some ad) 1 1) (h0 : w.cell? (ad.add 0) = some (.int .i64 u)) (h1 : w.cell? (ad.add 1) = some (.int .i64 v))
    (h : ∀ w', Prs w' O 27 len (fun i => if i = q then (u, v) else f i) → Touch [O] w w' → wpList Yba.prog ops Q rest (a.put o.dst (.slice (some ⟨O, 0, none⟩) (q + 1) len)) w') : wpList Yba.prog ops Q (o :: rest) a w := by
  obtain ⟨w', hr, h2, h3⟩ := run_out w O q len o.type f hO hq ad u v h0 h1
  refine wpList_plain hgd fun _ hK => ?_
  unfold Oper.wp execOp
  simp only [ho, resolve, invoke, builtin, Sem.run_bind, Sem.run_pure, Result.andThen_ok, List.map_toArray, List.map_cons, List.map_nil, hs, hx, hr]
  exact hK _ _ (h w' h2 h3)

theorem prs_made (w : World) (n : Nat) : Prs (w.alloc (.cells (zeroPairs n) 27)) w.heap.size 27 n (fun _ => (0, 0)) := by
  obtain ⟨c, h1, h2, h3⟩ := pairs_made w n
  exact ⟨c, h1, by omega, h3⟩

theorem run_make0 (W : World) (n : Nat) (hn : n ≤ 1048576) :
    (Instr.makeSlice 23 (.int .i64 0) (.int .i64 (n : Int))).run Yba.prog W = .ok (.slice (some ⟨W.heap.size, 0, none⟩) 0 n) (W.alloc (.cells (zeroPairs n) 27)) := by
  obtain ⟨i0, hi, hz0, hz1, hz2⟩ := info_parts Yba.info27
  have := run_make (P := Yba.prog) W 23 27 i0 _ Yba.underlying23 hi hz0 .i64 .i64 0 n (by omega) (by omega) (by rw [hz2]; omega) (by omega)
  rw [this]
  simp [hz1, zeroPairs, Value.cells]
theorem own_cap {w : World} {B e size n g cp : Nat} {xs : List Value} (h : w.ownsRow B e size (.slice (some ⟨g, 0, none⟩) n cp) n xs) : n ≤ cp := by
  rcases h.2 with ⟨e, _⟩ | ⟨g', cap, cur, e, hb, hg, hn, _⟩
  · cases e
  · simp at e
    obtain ⟨_, rfl⟩ := e
    exact hn

/-- The length of a slice. -/
def lenOf : Value → Nat
  | .slice _ n _ => n
  | _ => 0

theorem lst_put {q : Nat} {f : Nat → Int × Int} {p : Int × Int} : lst (q + 1) (fun i => if i = q then p else f i) = lst q f ++ [p] := by
  rw [lst_succ]
  congr 1
  · exact lst_congr fun i hi => if_neg (by omega)
  · simp

/-- What lies in memory while the heap is drained. -/
structure DrainAt (w : World) (G O len cp : Nat) (z : Nat → Int) (q m : Nat) (g outf : Nat → Int × Int) (wr : World) : Prop where
  hd : wr.rowIs w.heap.size 30 2 (heapCells cmpF G m cp)
  row : Prs wr G 27 len g
  out : Prs wr O 27 len outf
  below : Below w.heap.size w wr
  plain : Drain (lst len fun k => (z k, (k : Int))) (lst q outf) m g
theorem cell_new0 (w : World) (x y : Value) (t : TypeId) : (w.alloc (.cells #[x, y] t)).cell? ((⟨w.heap.size, 0, none⟩ : Addr).add 0) = some x :=
  World.news_of_block (cs := #[x, y]) (t := t) (fr := (0, 0)) (heap_alloc_new w _) 0 x rfl
theorem cell_new1 (w : World) (x y : Value) (t : TypeId) : (w.alloc (.cells #[x, y] t)).cell? ((⟨w.heap.size, 0, none⟩ : Addr).add 1) = some y :=
  World.news_of_block (cs := #[x, y]) (t := t) (fr := (0, 0)) (heap_alloc_new w _) 1 y rfl
/-- down(0), on a heap that may be empty. -/
theorem down_zero (w : World) (H G n cap N : Nat) (f : Nat → Int × Int) (hcap : n ≤ N) (hc0 : N ≤ 1048576) (hGH : G ≠ H)
    (hH : w.rowIs H 30 2 (heapCells cmpF G n cap)) (hG : Prs w G 27 N f) (hp : Hp f n 1) :
    Calls Yba.prog 9 #[.pointer (some ⟨H, 0, none⟩), .int .i64 0] w fun e w' => e = .returned (.tuple #[]) ∧ ∃ g, w'.rowIs H 30 2 (heapCells cmpF G n cap) ∧ Prs w' G 27 N g ∧
      Touch [G] w w' ∧ Hp g n 0 ∧ (lst n g).Perm (lst n f) := by
  cases n with
  | zero =>
    refine (down_empty w H G cap hH).mono ?_
    rintro e w' ⟨rfl, rfl⟩
    exact ⟨rfl, f, hH, hG, Touch.refl _ _, fun x h1 hx => by omega, List.Perm.refl _⟩
  | succ n => exact down_any w H G (n + 1) cap N 0 f (by omega) hcap hc0 hGH hH hG hp

theorem DrainAt.step {w : World} {G O len cp : Nat} {z : Nat → Int} {q m : Nat} {g outf g2 : Nat → Int × Int} {wr w4 w5 w6 : World} {o : Obj} (h : DrainAt w G O len cp z q (m + 1) g outf wr) (hOG : O ≠ G) (hOH : O ≠ w.heap.size) (hGs : w.heap.size < G) (hOs : w.heap.size < O)
    (p1 : Prs w4 O 27 len (fun i => if i = q then ((g 0).1, (g 0).2) else outf i)) (p2 : Touch [O] (wr.alloc o) w4) (t1 : Touch [G, w.heap.size] w4 w5) (t2 : Touch [G] w5 w6)
    (hd : w6.rowIs w.heap.size 30 2 (heapCells cmpF G m cp)) (row : Prs w6 G 27 len g2) (hh : Hp g2 m 0) (hp : (lst m g2).Perm (lst m (dropped m g))) :
    DrainAt w G O len cp z (q + 1) m g2 (fun i => if i = q then ((g 0).1, (g 0).2) else outf i) w6 := by
  have hs4 : w.heap.size ≤ w4.heap.size := Nat.le_trans (Nat.le_trans h.below.size (by simp)) p2.size
  have hs5 : w.heap.size ≤ w5.heap.size := Nat.le_trans hs4 t1.size
  refine ⟨hd, row, t2.prs (t1.prs p1 (by simp [hOG, hOH])) (by simp [hOG]), ?_, ?_⟩
  · refine ((h.below.alloc h.below.size o).trans (p2.below (by have := h.below.size; simp; omega) (by simp; omega))).trans ?_
    exact (t1.below hs4 (by simp; omega)).trans (t2.below hs5 (by simp; omega))
  · rw [lst_put]
    refine h.plain.step (g := dropped m g) (fun hm => ?_) (fun i h1 h2 => ?_) hp hh
    · simp [dropped]; omega
    · simp only [dropped]; rw [if_neg (by omega), if_neg (by omega)]
/-- Two rows beside each other, and old memory. -/
structure SortAt (w : World) (O E len : Nat) (outf e : Nat → Int × Int) (wx : World) : Prop where
  out : Prs wx O 27 len outf
  exp : Prs wx E 27 len e
  below : Below w.heap.size w wx

section
variable {w : World} {O E len : Nat} {outf e : Nat → Int × Int} {wx : World}
theorem SortAt.drewN (h : SortAt w O E len outf e wx) (n : Nat) : SortAt w O E len outf e (wx.drewN n) :=
  ⟨h.out, h.exp, ⟨h.below.os, h.below.tape, h.below.output, h.below.size, h.below.block⟩⟩
theorem SortAt.alloc (h : SortAt w O E len outf e wx) (o : Obj) : SortAt w O E len outf e (wx.alloc o) :=
  ⟨h.out.alloc o, h.exp.alloc o, h.below.alloc h.below.size o⟩
theorem SortAt.set (h : SortAt w O E len outf e wx) (hOE : O ≠ E) (hE : w.heap.size ≤ E) (j : Nat) (a b : Int) :
    SortAt w O E len outf (fun i => if i = j then (a, b) else e i) ((wx.setCell ⟨E, j * 2, none⟩ (.int .i64 a)).setCell ⟨E, j * 2 + 1, none⟩ (.int .i64 b)) :=
  ⟨(h.out.setOther (a := ⟨E, j * 2, none⟩) hOE _).setOther (a := ⟨E, j * 2 + 1, none⟩) hOE _, h.exp.set j a b, (h.below.setCell (p := ⟨E, j * 2, none⟩) hE _).setCell (p := ⟨E, j * 2 + 1, none⟩) hE _⟩
theorem SortAt.congr {e' : Nat → Int × Int} (h : SortAt w O E len outf e wx) (he : ∀ j, j < len → e j = e' j) : SortAt w O E len outf e' wx := ⟨h.out, h.exp.congr he, h.below⟩
end

theorem outer_start (z : Nat → Int) (len : Nat) : Outer z len 1 (fun k => (z k, (k : Int))) :=
  ⟨List.Perm.refl _, fun a b h1 h2 => by omega, fun a ha => by simp; omega, fun a _ _ => rfl⟩
theorem cell_two_other {w : World} {T E i j : Nat} {x y u : Value} {o : Nat} (h : w.cell? ⟨T, o, none⟩ = some u) (hne : T ≠ E) : ((w.setCell ⟨E, i, none⟩ x).setCell ⟨E, j, none⟩ y).cell? ⟨T, o, none⟩ = some u := by
  rw [← h]
  exact World.cell?_of_block ((Below.heap_setCell _ ⟨E, j, none⟩ _ T hne).trans (Below.heap_setCell _ ⟨E, i, none⟩ _ T hne))
end Go.Proofs.Ybulkcglg
