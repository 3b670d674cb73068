import Derived.Test.YbulkcgnkFmtVal
import Derived.Deep.LoopGhost
import Derived.Deep.CutRange
namespace Go.Proofs.YbulkcgnkFmt
open Go.RowKit Go.Extern.Stop Go.Stop Go.Extern
attribute [local go_sem ↓] Go.wp_at_zero Go.wp_at_succ

/-- The terms in their row. -/
def TS (w : World) (Tb m : Nat) (T : Nat → Nat × Bool) : Prop :=
  ∀ k, k < m → w.cell? ⟨Tb, k * 2, none⟩ = some (.int .i64 ((T k).1 : Int)) ∧ w.cell? ⟨Tb, k * 2 + 1, none⟩ = some (.bool (T k).2)
def items (T : Nat → Nat × Bool) (k : Nat) : List Nat := (List.range k).map fun j => (T j).1
theorem items_succ (T : Nat → Nat × Bool) (k : Nat) : items T (k + 1) = items T k ++ [(T k).1] := by simp [items, List.range_succ]
/-- The exact sum of the first k terms. -/
def psum (c : Int) (len : Nat) (g : Nat → Int × Bool) (T : Nat → Nat × Bool) : Nat → Int
  | 0 => c
  | k + 1 => psum c len g T k + sgn (T k).2 (vv len g (T k).1).1

/-- The log holds its; all that was there when Eval began is as it was, but for the log's variable, L. -/
structure LF (w W : World) (L : Nat) (its : List Nat) : Prop where
  log : ∃ lv, W.heap[L]? = some (.cells #[lv] 29 (0, 0)) ∧ W.ownsRow w.heap.size 3 1 lv its.length (vals its)
  os : W.os = w.os
  tape : W.tape = w.tape
  output : W.output = w.output
  size : w.heap.size ≤ W.heap.size
  block : ∀ j, j < w.heap.size → j ≠ L → W.heap[j]? = w.heap[j]?
/-- What Eval has in memory, at the head of its loop. sb: the sum's block; rb: the result's. -/
structure EV (w W : World) (L sb rb : Nat) (N Wr : Int) (its : List Nat) : Prop where
  lf : LF w W L its
  sum : W.heap[sb]? = some (.cells #[.int .i64 N, .int .i64 Wr] 38 (0, 0))
  res : W.heap[rb]? = some (.cells #[.int .i64 0, .bool false] 31 (0, 0))
  sw : w.heap.size ≤ sb
  rw' : w.heap.size ≤ rb

section
variable {w W W' : World} {L sb rb : Nat} {N Wr : Int} {its : List Nat}
theorem owns_below {e n B : Nat} {v : Value} {xs : List Value} (h : W.ownsRow B e 1 v n xs) (hb : Below W.heap.size W W') : W'.ownsRow B e 1 v n xs := by
  refine ⟨h.1, ?_⟩
  rcases h.2 with hn | ⟨g, cp, cur, rfl, hb', hg, rest⟩
  · exact .inl hn
  · exact .inr ⟨g, cp, cur, rfl, hb', (hb.block g (Array.getElem?_eq_some_iff.1 hg).1).trans hg, rest⟩
theorem blk_below {R : Nat} {o : Obj} (h : W.heap[R]? = some o) (hb : Below W.heap.size W W') : W'.heap[R]? = some o := (hb.block R (Array.getElem?_eq_some_iff.1 h).1).trans h
theorem LF.below (h : LF w W L its) (hb : Below W.heap.size W W') : LF w W' L its := by
  obtain ⟨lv, h1, h2⟩ := h.log
  exact ⟨⟨lv, blk_below h1 hb, owns_below h2 hb⟩, hb.os.trans h.os, hb.tape.trans h.tape, hb.output.trans h.output, Nat.le_trans h.size hb.size, fun j hj hL => (hb.block j (Nat.lt_of_lt_of_le hj h.size)).trans (h.block j hj hL)⟩
theorem EV.below (h : EV w W L sb rb N Wr its) (hb : Below W.heap.size W W') : EV w W' L sb rb N Wr its :=
  ⟨h.lf.below hb, blk_below h.sum hb, blk_below h.res hb, h.sw, h.rw'⟩
theorem EV.alloc (h : EV w W L sb rb N Wr its) (o : Obj) : EV w (W.alloc o) L sb rb N Wr its := h.below ((Below.refl _ _).alloc (Nat.le_refl _) o)
/-- A store into a block of Eval's own, of another kind than the log's. -/
theorem LF.set (h : LF w W L its) {R t : Nat} {c : Array Value} {fr : Nat × Nat} (hR : W.heap[R]? = some (.cells c t fr)) (ht : t ≠ 3) (ht' : t ≠ 29) (hw : w.heap.size ≤ R) (o : Nat) (v : Value) : LF w (W.setCell ⟨R, o, none⟩ v) L its := by
  obtain ⟨lv, h1, h2⟩ := h.log
  have hne : L ≠ R := by rintro rfl; rw [hR] at h1; simp at h1; exact ht' h1.2.1
  have hno : lv.ownBlock ≠ some R := by
    intro e
    rcases h2.2 with ⟨rfl, _⟩ | ⟨g', cp, cur, rfl, _, hg', _⟩
    · cases e
    · simp [Value.ownBlock] at e; subst e; rw [hR] at hg'; simp at hg'; exact ht hg'.2.1
  exact ⟨⟨lv, (Below.heap_setCell _ _ _ _ hne).trans h1, ownsRow_setCell_other h2 hno _⟩, h.os, h.tape, h.output, Nat.le_trans h.size (by simp), fun j hj hL => (Below.heap_setCell _ _ _ _ (by simp; omega)).trans (h.block j hj hL)⟩
theorem LF.set2 (h : LF w W L its) {R t : Nat} {x y : Value} (hR : W.heap[R]? = some (.cells #[x, y] t (0, 0))) (ht : t ≠ 3) (ht' : t ≠ 29) (hw : w.heap.size ≤ R) (x' y' : Value) : LF w ((W.setCell ⟨R, 0, none⟩ x').setCell ⟨R, 1, none⟩ y') L its :=
  (h.set hR ht ht' hw 0 x').set (heap_setCell_same W R 0 _ t x' hR) ht ht' hw 1 y'
theorem EV.setSum (h : EV w W L sb rb N Wr its) (N' Wr' : Int) : EV w ((W.setCell ⟨sb, 0, none⟩ (.int .i64 N')).setCell ⟨sb, 1, none⟩ (.int .i64 Wr')) L sb rb N' Wr' its := by
  have hne : rb ≠ sb := by intro e; have h1 := h.res; rw [e, h.sum] at h1; simp at h1
  exact ⟨h.lf.set2 h.sum (by decide) (by decide) h.sw _ _, pair_set h.sum, (Below.heap_setCell _ _ _ _ hne).trans ((Below.heap_setCell _ _ _ _ hne).trans h.res), h.sw, h.rw'⟩
/-- Behind a call of the closure. -/
theorem EV.called (h : EV w W L sb rb N Wr its) {lv lv' : Value} {it : Nat} {n : Nat} (hn : its.length = n) (h1 : W.heap[L]? = some (.cells #[lv] 29 (0, 0))) (h2 : W.ownsRow w.heap.size 3 1 lv n (vals its))
    (k1 : W'.heap[L]? = some (.cells #[lv'] 29 (0, 0))) (k2 : W'.ownsRow w.heap.size 3 1 lv' (n + 1) (vals (its ++ [it]))) (hc : Chg W W' L lv.ownBlock) : EV w W' L sb rb N Wr (its ++ [it]) := by
  have hsL : sb ≠ L := by rintro rfl; rw [h.sum] at h1; simp at h1
  have hrL : rb ≠ L := by rintro rfl; rw [h.res] at h1; simp at h1
  refine ⟨⟨⟨lv', k1, by simpa [hn] using k2⟩, hc.os.trans h.lf.os, hc.tape.trans h.lf.tape, hc.output.trans h.lf.output, Nat.le_trans h.lf.size hc.size, fun j hj hL => ?_⟩, hc.keep h2 h.sum (by decide) hsL, hc.keep h2 h.res (by decide) hrL, h.sw, h.rw'⟩
  refine (hc.block j (Nat.lt_of_lt_of_le hj h.lf.size) hL fun e => ?_).trans (h.lf.block j hj hL)
  have := (h2.lt j e).1
  omega
end
/-- The terms and the values stand where the rest has not turned. -/
theorem TS.same {w W : World} {L Tb m : Nat} {its : List Nat} {T : Nat → Nat × Bool} (h : TS w Tb m T) (hf : LF w W L its) (hTL : Tb ≠ L) : TS W Tb m T := by
  intro k hk
  obtain ⟨c0, c1⟩ := h k hk
  have e := hf.block Tb (World.block_lt_of_cell? w _ c0) hTL
  exact ⟨(World.cell?_of_block (a := ⟨Tb, k * 2, none⟩) e).trans c0, (World.cell?_of_block (a := ⟨Tb, k * 2 + 1, none⟩) e).trans c1⟩
theorem InV.lf {w W : World} {L len : Nat} {a : Option Addr} {its : List Nat} {g : Nat → Int × Bool} (h : InV w a len g) (hf : LF w W L its) (hIL : ∀ b off, a = some ⟨b, off, none⟩ → 0 < len → b ≠ L) : InV W a len g :=
  h.same fun b off ha hl => hf.block b (h.lt ha hl) (hIL b off ha hl)

/-- What Eval answers. -/
def Ans (w w' : World) (L m len : Nat) (c : Int) (g : Nat → Int × Bool) (T : Nat → Nat × Bool) (e : Ending) : Prop :=
  (∃ k, k < m ∧ (∀ j, j < k → (vv len g (T j).1).2 = true) ∧ (vv len g (T k).1).2 = false ∧ e = .returned (.tuple #[.agg #[.int .i64 0, .bool false], .nilIface]) ∧ LF w w' L (items T (k + 1))) ∨
  ((∀ j, j < m → (vv len g (T j).1).2 = true) ∧ LF w w' L (items T m) ∧ ((I64 (psum c len g T m) ∧ e = .returned (.tuple #[.agg #[.int .i64 (psum c len g T m), .bool true], .nilIface])) ∨ (¬ I64 (psum c len g T m) ∧ ∃ p, e = .returned (.tuple #[.agg #[.int .i64 0, .bool false], .iface 54 (.pointer (some p))]))))

/-- What a round finds behind the call of the closure. -/
structure RN (w w2 : World) (L sb rb tb : Nat) (N Wr : Int) (its : List Nat) (it : Nat) (mi : Bool) : Prop where
  ev : EV w w2 L sb rb N Wr its
  term : w2.heap[tb]? = some (.cells #[.int .i64 (it : Int), .bool mi] 28 (0, 0))
theorem rn_of {w W w2 : World} {L sb rb n it : Nat} {N Wr : Int} {its : List Nat} {mi : Bool} {lv lv' : Value} (h : EV w W L sb rb N Wr its) (hn : its.length = n) (h1 : W.heap[L]? = some (.cells #[lv] 29 (0, 0))) (h2 : W.ownsRow w.heap.size 3 1 lv n (vals its))
    (k1 : w2.heap[L]? = some (.cells #[lv'] 29 (0, 0))) (k2 : w2.ownsRow w.heap.size 3 1 lv' (n + 1) (vals (its ++ [it]))) (hc : Chg (W.alloc (.cells #[.int .i64 (it : Int), .bool mi] 28)) w2 L lv.ownBlock) : RN w w2 L sb rb W.heap.size N Wr (its ++ [it]) it mi := by
  have hb : Below W.heap.size W (W.alloc (.cells #[.int .i64 (it : Int), .bool mi] 28)) := (Below.refl _ _).alloc (Nat.le_refl _) _
  refine ⟨(h.alloc _).called hn (blk_below h1 hb) (owns_below h2 hb) k1 k2 hc, hc.keep (owns_below h2 hb) (heap_alloc_new W _) (by decide) ?_⟩
  have := (Array.getElem?_eq_some_iff.1 h1).1
  omega
theorem pair_far {W : World} {R t : Nat} {x y : Value} (h : W.heap[R]? = some (.cells #[x, y] t (0, 0))) (o : Obj) : (W.alloc o).cell? ⟨R, 0, none⟩ = some x ∧ (W.alloc o).cell? ⟨R, 1, none⟩ = some y ∧ (W.alloc o).frozen? ⟨R, 0, none⟩ = false ∧ (W.alloc o).frozen? ⟨R, 1, none⟩ = false :=
  pair_cells ((Below.heap_alloc _ _ _ (Array.getElem?_eq_some_iff.1 h).1).trans h)

set_option maxHeartbeats 2000000 in
set_option maxRecDepth 4000 in
theorem eval_any (F : Interp) (w : World) (hF : F.answers w.tape) (L Vb Tb m len cap : Nat) (a : Option Addr) (cn cw : Int) (g : Nat → Int × Bool) (T : Nat → Nat × Bool) (hm : m ≤ 1024)
    (hL : w.heap[L]? = some (.cells #[.slice none 0 0] 29 (0, 0))) (hV : w.heap[Vb]? = some (.cells #[.slice a len cap] 23 (0, 0))) (hI : InV w a len g) (hIL : ∀ b off, a = some ⟨b, off, none⟩ → 0 < len → b ≠ L)
    (hT : TS w Tb m T) (hTL : Tb ≠ L) (hit : ∀ k, k < m → (T k).1 < 256) (hcn : I64 cn) (hcw0 : -1099511627776 ≤ cw) (hcw1 : cw ≤ 1099511627776) :
    Calls Ybaf.prog 6 #[.agg #[.int .i64 cn, .int .i64 cw, .slice (some ⟨Tb, 0, none⟩) m m], .func (.func 4) #[] #[.pointer (some ⟨L, 0, none⟩), .pointer (some ⟨Vb, 0, none⟩)]] w fun e w' => Ans w w' L m len (cw * 18446744073709551616 + cn) g T e := by
  have hVL : Vb ≠ L := by rintro rfl; rw [hL] at hV; simp at hV
  have HL := hide hL
  have HV := hide hV
  have HI := hide hI
  have HIL := hide hIL
  have HT := hide hT
  have HIT := hide hit
  clear hL hV hI hIL hT hit
  go_enter Ybaf.func6, Ybaf.ntmps6
  go_wp2
  have HE : Hid (EV w (((w.alloc (.cells #[.int .i64 cn, .int .i64 cw, .slice (some ⟨Tb, 0, none⟩) m m] 40)).alloc (.cells #[.int .i64 0, .bool false] 31)).alloc (.cells #[.int .i64 cn, .int .i64 cw] 38)) L (w.heap.size + 1 + 1) (w.heap.size + 1) cn cw []) := by
    have hb : Below w.heap.size w (((w.alloc (.cells #[.int .i64 cn, .int .i64 cw, .slice (some ⟨Tb, 0, none⟩) m m] 40)).alloc (.cells #[.int .i64 0, .bool false] 31)).alloc (.cells #[.int .i64 cn, .int .i64 cw] 38)) := (((Below.refl _ _).alloc (Nat.le_refl _) _).alloc (by simp) _).alloc (by simp; omega) _
    have h0 : LF w w L [] := ⟨⟨_, HL.out, World.ownsRow_nil _ _ _ _⟩, rfl, rfl, rfl, Nat.le_refl _, fun _ _ _ => rfl⟩
    refine ⟨h0.below hb, ?_, ?_, by omega, by omega⟩
    · have := heap_alloc_new ((w.alloc (.cells #[.int .i64 cn, .int .i64 cw, .slice (some ⟨Tb, 0, none⟩) m m] 40)).alloc (.cells #[.int .i64 0, .bool false] 31)) (.cells #[.int .i64 cn, .int .i64 cw] 38)
      simpa using this
    · rw [Below.heap_alloc _ _ _ (by simp)]
      have := heap_alloc_new (w.alloc (.cells #[.int .i64 cn, .int .i64 cw, .slice (some ⟨Tb, 0, none⟩) m m] 40)) (.cells #[.int .i64 0, .bool false] 31)
      simpa using this
  clear HL
  generalize ((w.alloc (.cells #[.int .i64 cn, .int .i64 cw, .slice (some ⟨Tb, 0, none⟩) m m] 40)).alloc (.cells #[.int .i64 0, .bool false] 31)).alloc (.cells #[.int .i64 cn, .int .i64 cw] 38) = w0 at HE ⊢
  obtain ⟨sb, hsb⟩ : ∃ sb, w.heap.size + 1 + 1 = sb := ⟨_, rfl⟩
  obtain ⟨rb, hrb⟩ : ∃ rb, w.heap.size + 1 = rb := ⟨_, rfl⟩
  rw [hsb, hrb] at HE
  rw [hsb, hrb]
  clear hsb hrb
  go_loopg [17] m (fun gk s17 wr => ∃ (k : Nat) (N Wr : Int), k ≤ m ∧ gk = m - k ∧ s17 = .int .i64 k ∧ I64 N ∧ Wr * 18446744073709551616 + N = psum (cw * 18446744073709551616 + cn) len g T k ∧ -1099511627776 - (k : Int) ≤ Wr ∧ Wr ≤ 1099511627776 + (k : Int) ∧ (∀ j, j < k → (vv len g (T j).1).2 = true) ∧ EV w wr L sb rb N Wr (items T k))
  case atStart => exact ⟨0, cn, cw, by omega, by omega, rfl, hcn, rfl, by omega, by omega, fun j hj => by omega, HE.out⟩
  case round =>
    obtain ⟨k, N, Wr, hk, hgk, rfl, hN, hS, hW0, hW1, hkn, hEV⟩ := hrel
    clear HE
    by_cases hkm : k < m
    · obtain ⟨it, hit⟩ : ∃ it, (T k).1 = it := ⟨_, rfl⟩
      obtain ⟨mi, hmi⟩ : ∃ mi, (T k).2 = mi := ⟨_, rfl⟩
      have hit2 : it < 256 := hit ▸ HIT.out k hkm
      obtain ⟨d0, d1⟩ := (HT.out.same hEV.lf hTL) k hkm
      rw [hit] at d0
      rw [hmi] at d1
      obtain ⟨lv, h1, h2⟩ := hEV.lf.log
      have hlen : (items T k).length = k := by simp [items]
      rw [hlen] at h2
      have kk : (k : Int) < (m : Int) := by omega
      have kk0 : (0 : Int) ≤ (k : Int) := by omega
      have hwk : IntKind.i64.wrap ((k : Int) + 1) = (k : Int) + 1 := by rw [IntKind.wrap_i64]; omega
      have hb : ∀ o, Below wr.heap.size wr (wr.alloc o) := fun o => (Below.refl _ _).alloc (Nat.le_refl _) o
      have hBw := hEV.lf.size
      have hVr : wr.heap[Vb]? = some (.cells #[.slice a len cap] 23 (0, 0)) := by
        exact (hEV.lf.block Vb (Array.getElem?_eq_some_iff.1 HV.out).1 hVL).trans HV.out
      have HC : Hid (∀ o, Calls Ybaf.prog 4 #[.int .i64 (it : Int), .pointer (some ⟨L, 0, none⟩), .pointer (some ⟨Vb, 0, none⟩)] (wr.alloc o) fun e w' => e = .returned (.agg #[.int .i64 (vv len g it).1, .bool (vv len g it).2]) ∧
          ∃ lv', w'.heap[L]? = some (.cells #[lv'] 29 (0, 0)) ∧ w'.ownsRow w.heap.size 3 1 lv' (k + 1) (vals (items T k ++ [it])) ∧ Chg (wr.alloc o) w' L lv.ownBlock) := by
        intro o
        refine closure_any _ w.heap.size L Vb a len cap it k g lv (items T k) ((HI.out.lf hEV.lf HIL.out).same fun b off ha hl => (hb o).block b ((HI.out.lf hEV.lf HIL.out).lt ha hl)) hit2 (blk_below h1 (hb o)) (blk_below hVr (hb o)) (owns_below h2 (hb o)) (by omega) (by simp; omega) fun b off ha hl => ⟨HIL.out b off ha hl, fun e => ?_⟩
        have := (h2.lt b e).1
        have := HI.out.lt ha hl
        omega
      have HN : Hid (∀ lv' w2, w2.heap[L]? = some (.cells #[lv'] 29 (0, 0)) → w2.ownsRow w.heap.size 3 1 lv' (k + 1) (vals (items T k ++ [it])) → Chg (wr.alloc (.cells #[.int .i64 (it : Int), .bool mi] 28)) w2 L lv.ownBlock → RN w w2 L sb rb wr.heap.size N Wr (items T k ++ [it]) it mi) :=
        fun lv' w2 k1 k2 hc => rn_of hEV hlen h1 h2 k1 k2 hc
      have HX : Hid ((T k).1 = it ∧ (T k).2 = mi) := ⟨hit, hmi⟩
      have hv64 : I64 (vv len g it).1 := vv_i64 HI.out hit2
      obtain ⟨v, hv⟩ : ∃ v, (vv len g it).1 = v := ⟨_, rfl⟩
      obtain ⟨kn, hkn2⟩ : ∃ kn, (vv len g it).2 = kn := ⟨_, rfl⟩
      rw [hv, hkn2] at HC
      rw [hv] at hv64
      have HVV : Hid ((vv len g it).1 = v ∧ (vv len g it).2 = kn) := ⟨hv, hkn2⟩
      have HS : Hid (I64 N ∧ Wr * 18446744073709551616 + N = psum (cw * 18446744073709551616 + cn) len g T k ∧ (∀ j, j < k → (vv len g (T j).1).2 = true)) := ⟨hN, hS, hkn⟩
      clear hit hmi hv hkn2 hN hS hkn h1 h2 hVr hEV hlen hb
      cases kn with
      | false =>
        go_wp2_with (go_at_call 4; refine (HC.out _).mono ?_; rintro _ w2 ⟨rfl, lv', k1, k2, hc⟩; have HR := hide (HN.out lv' w2 k1 k2 hc); have f1 := fun o => pair_far HR.out.ev.res o; have f11 := fun o => (f1 o).1; have f12 := fun o => (f1 o).2.1; have f13 := fun o => (f1 o).2.2.1; have f14 := fun o => (f1 o).2.2.2; clear k1 k2 hc f1)
        have hr := HR.out
        obtain ⟨z1, z2, _, _⟩ := pair_cells (pair_set (x' := .int .i64 0) (y' := .bool false) (hr.ev.alloc (.cells #[.int .i64 v, .bool false] 31)).res)
        refine bodyPost_ret (v := .tuple #[.agg #[.int .i64 0, .bool false], .nilIface]) (by simp [results, Ybaf.results6, go_sem, z1, z2]) rfl ?_
        refine .inl ⟨k, hkm, HS.out.2.2, by rw [HX.out.1]; exact HVV.out.2, rfl, ?_⟩
        rw [items_succ, HX.out.1]
        exact (hr.ev.alloc _).lf.set2 (hr.ev.alloc _).res (by decide) (by decide) hr.ev.rw' _ _
      | true =>
        go_wp2_with (first
          | (go_at_call 4; refine (HC.out _).mono ?_; rintro _ w2 ⟨rfl, lv', k1, k2, hc⟩; have HR := hide (HN.out lv' w2 k1 k2 hc); have f1 := fun o => pair_far HR.out.ev.sum o; have f11 := fun o => (f1 o).1; have f12 := fun o => (f1 o).2.1; have f2 := fun o => (pair_far HR.out.term o).2.1; clear k1 k2 hc f1)
          | (go_at_call 9; refine (add_any N Wr v mi _ HS.out.1 hv64 (by omega) (by omega)).mono ?_; rintro _ w4 ⟨N', Wr', rfl, hN', hS', hB4⟩; have hsum := ((HR.out.ev.alloc _).below hB4).sum; obtain ⟨y1, y2, y3, y4⟩ := pair_cells hsum; have HE4 := hide (((HR.out.ev.alloc _).below hB4).setSum N' Wr'); have HS4 := hide (And.intro hN' hS'); clear hN' hS' hB4 hsum f11 f12 f2))
        go_roundg (m - (k + 1))
        case measure => omega
        case rel =>
          have hs4 := HS4.out
          have hs := HS.out
          refine ⟨k + 1, N', Wr', by omega, rfl, by go_num, hs4.1, ?_, ?_, ?_, fun j hj => ?_, ?_⟩
          · rw [hs4.2, hs.2.1, psum, HX.out.1, HX.out.2, HVV.out.1]
          · obtain ⟨a1, a2⟩ := hs4.1
            obtain ⟨b1, b2⟩ := hs.1
            obtain ⟨c1, c2⟩ := hv64
            have e := hs4.2
            cases mi <;> simp only [sgn] at e <;> omega
          · obtain ⟨a1, a2⟩ := hs4.1
            obtain ⟨b1, b2⟩ := hs.1
            obtain ⟨c1, c2⟩ := hv64
            have e := hs4.2
            cases mi <;> simp only [sgn] at e <;> omega
          · by_cases ej : j = k
            · subst ej; rw [HX.out.1]; exact HVV.out.2
            · exact hs.2.2 j (by omega)
          · rw [items_succ, HX.out.1]
            exact HE4.out
    · have e : m = k := by omega
      subst e
      obtain ⟨d0, d1, -, -⟩ := pair_cells hEV.sum
      have HE := hide hEV
      have HS : Hid (I64 N ∧ Wr * 18446744073709551616 + N = psum (cw * 18446744073709551616 + cn) len g T m ∧ (∀ j, j < m → (vv len g (T j).1).2 = true)) := ⟨hN, hS, hkn⟩
      have hFr : F.answers wr.tape := by rw [hEV.lf.tape]; exact hF
      clear hEV hN hS hkn
      rcases (show Wr = 0 ∨ 0 < Wr ∨ Wr < 0 from by omega) with rfl | hW | hW
      · go_wp2_with (go_at_call 10; refine (int64_fit N _).mono ?_; rintro _ w5 ⟨rfl, hB5⟩; have hres5 := (HE.out.below hB5).res; obtain ⟨y1, y2, y3, y4⟩ := pair_cells hres5; have HE5 := hide (HE.out.below hB5); clear hB5 hres5)
        obtain ⟨z1, z2, _, _⟩ := pair_cells (pair_set (x' := .int .i64 N) (y' := .bool true) HE5.out.res)
        refine bodyPost_ret (v := .tuple #[.agg #[.int .i64 N, .bool true], .nilIface]) (by simp [results, Ybaf.results6, go_sem, z1, z2]) rfl ?_
        exact .inr ⟨HS.out.2.2, HE5.out.lf.set2 HE5.out.res (by decide) (by decide) HE5.out.rw' _ _, by
          left
          have e := HS.out.2.1
          have e1 : psum (cw * 18446744073709551616 + cn) len g T m = N := by rw [← e]; omega
          rw [e1]
          exact ⟨HS.out.1, rfl⟩⟩
      · go_wp2_with (go_at_call 10; refine (int64_big F N Wr _ hFr hW).mono ?_; rintro _ w5 ⟨⟨pp, rfl⟩, hB5⟩; have hres5 := (HE.out.below hB5).res; obtain ⟨y1, y2, y3, y4⟩ := pair_cells hres5; have HE5 := hide (HE.out.below hB5); clear hB5 hres5)
        obtain ⟨z1, z2, _, _⟩ := pair_cells (pair_set (x' := .int .i64 0) (y' := .bool false) HE5.out.res)
        refine bodyPost_ret (v := .tuple #[.agg #[.int .i64 0, .bool false], .iface 54 (.pointer (some pp))]) (by simp [results, Ybaf.results6, go_sem, z1, z2]) rfl ?_
        exact .inr ⟨HS.out.2.2, HE5.out.lf.set2 HE5.out.res (by decide) (by decide) HE5.out.rw' _ _, by
          right
          refine ⟨fun hc => ?_, pp, rfl⟩
          have e := HS.out.2.1
          obtain ⟨a1, a2⟩ := hc
          obtain ⟨b1, b2⟩ := HS.out.1
          omega⟩
      · go_wp2_with (go_at_call 10; refine (int64_small F N Wr _ hFr hW).mono ?_; rintro _ w5 ⟨⟨pp, rfl⟩, hB5⟩; have hres5 := (HE.out.below hB5).res; obtain ⟨y1, y2, y3, y4⟩ := pair_cells hres5; have HE5 := hide (HE.out.below hB5); clear hB5 hres5)
        obtain ⟨z1, z2, _, _⟩ := pair_cells (pair_set (x' := .int .i64 0) (y' := .bool false) HE5.out.res)
        refine bodyPost_ret (v := .tuple #[.agg #[.int .i64 0, .bool false], .iface 54 (.pointer (some pp))]) (by simp [results, Ybaf.results6, go_sem, z1, z2]) rfl ?_
        exact .inr ⟨HS.out.2.2, HE5.out.lf.set2 HE5.out.res (by decide) (by decide) HE5.out.rw' _ _, by
          right
          refine ⟨fun hc => ?_, pp, rfl⟩
          have e := HS.out.2.1
          obtain ⟨a1, a2⟩ := hc
          obtain ⟨b1, b2⟩ := HS.out.1
          omega⟩
end Go.Proofs.YbulkcgnkFmt
