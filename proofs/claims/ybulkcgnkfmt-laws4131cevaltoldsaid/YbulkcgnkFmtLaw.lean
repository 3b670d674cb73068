import Derived.Test.YbulkcgnkFmtWords
import Derived.Deep.OwnRows
namespace Go.Proofs.YbulkcgnkFmt
open Go.RowKit Go.Extern.Stop Go.Stop Go.Extern
attribute [local go_sem ↓] Go.wp_at_zero Go.wp_at_succ

/-- The terms, as the argument has them. -/
def InT (w : World) (a : Option Addr) (m : Nat) (f : Nat → Nat × Bool) : Prop :=
  ∀ j, j < m → ∃ b off, a = some ⟨b, off, none⟩ ∧ (f j).1 < 256 ∧ w.cell? ⟨b, off + j * 2, none⟩ = some (.int .u8 ((f j).1 : Int)) ∧ w.cell? ⟨b, off + j * 2 + 1, none⟩ = some (.bool (f j).2)
def Tof (f : Nat → Nat × Bool) : Nat → Nat × Bool := fun k => ((f k).1 % 16, (f k).2)

theorem info28 : (Ybaf.prog.info? 28).map (fun i => (i.zero, i.size, i.bytes)) = some (some (.agg #[.int .i64 0, .bool false]), 2, 16) := by kernel_rfl
theorem make_terms (W : World) (p : Nat) (h : p ≤ 1024) : (Instr.makeSlice 24 (.int .i64 (p : Int)) (.int .i64 (p : Int))).run Ybaf.prog W = .ok (.slice (some ⟨W.heap.size, 0, none⟩) p p) (W.alloc (.cells (madeCells #[.int .i64 0, .bool false] (p * 2)) 28)) := by
  obtain ⟨i0, hi, hz0, hz1, hz2⟩ := info_parts info28
  have := run_make (P := Ybaf.prog) W 24 28 i0 _ Ybaf.underlying24 hi hz0 .i64 .i64 p p (by omega) (by omega) (by rw [hz2]; omega) (by omega)
  simpa [Value.cells, hz1] using this
theorem made_row (W : World) (p : Nat) : ∃ f, (W.alloc (.cells (madeCells #[.int .i64 0, .bool false] (p * 2)) 28)).rowIs W.heap.size 28 (p * 2) f := by
  have hsz : (madeCells #[.int .i64 0, .bool false] (p * 2)).size = p * 2 := size_madeCells _ _
  refine ⟨fun i => ((madeCells #[.int .i64 0, .bool false] (p * 2))[i]?).getD undef, _, heap_alloc_new W _, hsz, fun i hi => ?_⟩
  simp only [Array.getElem?_eq_getElem (show i < (madeCells #[.int .i64 0, .bool false] (p * 2)).size by omega), Option.getD_some]
/-- The first k terms are laid. -/
def Part (W : World) (Tb m k : Nat) (T : Nat → Nat × Bool) : Prop :=
  ∃ f, W.rowIs Tb 28 (m * 2) f ∧ ∀ j, j < k → f (j * 2) = .int .i64 ((T j).1 : Int) ∧ f (j * 2 + 1) = .bool (T j).2
theorem Part.set {W : World} {Tb m k : Nat} {T : Nat → Nat × Bool} (h : Part W Tb m k T) : Part ((W.setCell ⟨Tb, k * 2, none⟩ (.int .i64 ((T k).1 : Int))).setCell ⟨Tb, k * 2 + 1, none⟩ (.bool (T k).2)) Tb m (k + 1) T := by
  obtain ⟨f, hr, hf⟩ := h
  refine ⟨_, (hr.set (k * 2) _).set (k * 2 + 1) _, fun j hj => ?_⟩
  by_cases e : j = k
  · subst e
    refine ⟨?_, by simp⟩
    rw [if_neg (by omega)]
    simp
  · obtain ⟨a, b⟩ := hf j (by omega)
    refine ⟨?_, ?_⟩
    · rw [if_neg (by omega), if_neg (by omega)]; exact a
    · rw [if_neg (by omega), if_neg (by omega)]; exact b
theorem Part.alloc {W : World} {Tb m k : Nat} {T : Nat → Nat × Bool} (h : Part W Tb m k T) (o : Obj) : Part (W.alloc o) Tb m k T := by
  obtain ⟨f, hr, hf⟩ := h
  exact ⟨f, hr.alloc o, hf⟩
theorem Part.cells {W : World} {Tb m k : Nat} {T : Nat → Nat × Bool} (h : Part W Tb m k T) {j : Nat} (hj : j < m) : (∃ u, W.cell? ⟨Tb, j * 2, none⟩ = some u) ∧ (∃ u, W.cell? ⟨Tb, j * 2 + 1, none⟩ = some u) ∧ ∀ i, W.frozen? ⟨Tb, i, none⟩ = false := by
  obtain ⟨f, hr, _⟩ := h
  exact ⟨⟨_, hr.cell (by omega)⟩, ⟨_, hr.cell (by omega)⟩, fun i => hr.frozen i⟩
theorem Part.ts {W : World} {Tb m : Nat} {T : Nat → Nat × Bool} (h : Part W Tb m m T) : TS W Tb m T := by
  obtain ⟨f, hr, hf⟩ := h
  intro k hk
  rw [← (hf k hk).1, ← (hf k hk).2]
  exact ⟨hr.cell (by omega), hr.cell (by omega)⟩

/-- What Eval gave, taken apart. -/
def Out (m len : Nat) (c : Int) (g : Nat → Int × Bool) (T : Nat → Nat × Bool) (gn : Int) (gk : Bool) (ev : Value) (its : List Nat) : Prop :=
  (∃ k, k < m ∧ (∀ j, j < k → (vv len g (T j).1).2 = true) ∧ (vv len g (T k).1).2 = false ∧ gn = 0 ∧ gk = false ∧ ev = .nilIface ∧ its = items T (k + 1)) ∨
  ((∀ j, j < m → (vv len g (T j).1).2 = true) ∧ its = items T m ∧ ((I64 (psum c len g T m) ∧ gn = psum c len g T m ∧ gk = true ∧ ev = .nilIface) ∨ (¬ I64 (psum c len g T m) ∧ gn = 0 ∧ gk = false ∧ ∃ p, ev = .iface 54 (.pointer (some p)))))
theorem Ans.out {w w' : World} {L m len : Nat} {c : Int} {g : Nat → Int × Bool} {T : Nat → Nat × Bool} {e : Ending} (h : Ans w w' L m len c g T e) : ∃ gn gk ev its, e = .returned (.tuple #[.agg #[.int .i64 gn, .bool gk], ev]) ∧ LF w w' L its ∧ Out m len c g T gn gk ev its := by
  rcases h with ⟨k, h1, h2, h3, rfl, h5⟩ | ⟨h1, h2, h3⟩
  · exact ⟨_, _, _, _, rfl, h5, .inl ⟨k, h1, h2, h3, rfl, rfl, rfl, rfl⟩⟩
  · rcases h3 with ⟨h4, rfl⟩ | ⟨h4, p, rfl⟩
    · exact ⟨_, _, _, _, rfl, h2, .inr ⟨h1, rfl, .inl ⟨h4, rfl, rfl, rfl⟩⟩⟩
    · exact ⟨_, _, _, _, rfl, h2, .inr ⟨h1, rfl, .inr ⟨h4, rfl, rfl, p, rfl⟩⟩⟩
/-- All that stands behind Eval. -/
structure ST (w W : World) (Vb Tb L Gb m len cap : Nat) (a : Option Addr) (g : Nat → Int × Bool) (T : Nat → Nat × Bool) (gn : Int) (gk : Bool) (its : List Nat) (la : Option Addr) (lc : Nat) : Prop where
  vals' : InV W a len g
  terms : TS W Tb m T
  box : W.heap[Vb]? = some (.cells #[.slice a len cap] 23 (0, 0))
  log : W.heap[L]? = some (.cells #[.slice la its.length lc] 29 (0, 0))
  seen : ∀ (j x : Nat), its[j]? = some x → ∃ gl, la = some ⟨gl, 0, none⟩ ∧ W.cell? ⟨gl, j, none⟩ = some (.int .i64 (x : Int))
  got : W.heap[Gb]? = some (.cells #[.int .i64 gn, .bool gk] 31 (0, 0))
  bel : Below w.heap.size w W
theorem ST.below {w W W' : World} {Vb Tb L Gb m len cap : Nat} {a : Option Addr} {g : Nat → Int × Bool} {T : Nat → Nat × Bool} {gn : Int} {gk : Bool} {its : List Nat} {la : Option Addr} {lc : Nat} (h : ST w W Vb Tb L Gb m len cap a g T gn gk its la lc) (hb : Below W.heap.size W W') : ST w W' Vb Tb L Gb m len cap a g T gn gk its la lc := by
  have key : ∀ p v, W.cell? p = some v → W'.cell? p = some v := fun p v hv => (hb.cell (p := p) (World.block_lt_of_cell? W p hv)).trans hv
  refine ⟨h.vals'.same fun b off ha hl => hb.block b (h.vals'.lt ha hl), fun k hk => ⟨key _ _ (h.terms k hk).1, key _ _ (h.terms k hk).2⟩, blk_below h.box hb, blk_below h.log hb, fun j x hx => ?_, blk_below h.got hb, h.bel.trans (hb.mono h.bel.size)⟩
  obtain ⟨gl, e, hc⟩ := h.seen j x hx
  exact ⟨gl, e, key _ _ hc⟩
theorem owns_log {W : World} {B n : Nat} {v : Value} {its : List Nat} (h : W.ownsRow B 3 1 v n (vals its)) : ∃ a c, v = .slice a n c ∧ ∀ (j x : Nat), its[j]? = some x → ∃ g, a = some ⟨g, 0, none⟩ ∧ W.cell? ⟨g, j, none⟩ = some (.int .i64 (x : Int)) := by
  rcases h.2 with ⟨rfl, rfl⟩ | ⟨g, cp, cur, rfl, hb, hg, hc, _⟩
  · refine ⟨none, 0, rfl, fun j x hx => ?_⟩
    have h1 := h.1
    simp [vals] at h1
    subst h1; cases hx
  · refine ⟨_, cp, rfl, fun j x hx => ⟨g, rfl, ?_⟩⟩
    have hj : j < its.length := (List.getElem?_eq_some_iff.1 hx).1
    have h1 := h.1
    simp [vals] at h1
    rw [h.cellAt j (by omega)]
    simp [vals, hx]
theorem st_of {w wr w2 : World} {Vb Tb L m len cap : Nat} {a : Option Addr} {g : Nat → Int × Bool} {T : Nat → Nat × Bool} {gn : Int} {gk : Bool} {its : List Nat} (hI : InV w a len g) (hP : Part wr Tb m m T) (hB : Below w.heap.size w wr) (hV : wr.heap[Vb]? = some (.cells #[.slice a len cap] 23 (0, 0))) (hL : L = wr.heap.size)
    (hf : LF (wr.alloc (.cells #[.slice none 0 0] 29)) w2 L its) : ∃ la lc, ST w (w2.alloc (.cells #[.int .i64 gn, .bool gk] 31)) Vb Tb L w2.heap.size m len cap a g T gn gk its la lc := by
  subst hL
  have hB1 : Below w.heap.size w (wr.alloc (.cells #[.slice none 0 0] 29)) := hB.alloc hB.size _
  have hB2 : Below w.heap.size w w2 := ⟨hf.os.trans hB1.os, hf.tape.trans hB1.tape, hf.output.trans hB1.output, Nat.le_trans hB1.size hf.size, fun k hk => (hf.block k (by have := hB.size; simp; omega) (by have := hB.size; omega)).trans (hB1.block k hk)⟩
  have hTlt : Tb < wr.heap.size := by obtain ⟨f, hr, _⟩ := hP; exact hr.lt
  have hVlt : Vb < wr.heap.size := (Array.getElem?_eq_some_iff.1 hV).1
  have hb3 : Below w2.heap.size w2 (w2.alloc (.cells #[.int .i64 gn, .bool gk] 31)) := (Below.refl _ _).alloc (Nat.le_refl _) _
  have key : ∀ p v, w2.cell? p = some v → (w2.alloc (.cells #[.int .i64 gn, .bool gk] 31)).cell? p = some v := fun p v hv => (hb3.cell (p := p) (World.block_lt_of_cell? w2 p hv)).trans hv
  have hTS : TS w2 Tb m T := (hP.alloc _).ts.same hf (by omega)
  obtain ⟨lv, l1, l2⟩ := hf.log
  obtain ⟨la, lc, rfl, l3⟩ := owns_log l2
  refine ⟨la, lc, hI.same fun b off ha hl => (hb3.block b (Nat.lt_of_lt_of_le (hI.lt ha hl) hB2.size)).trans (hB2.block b (hI.lt ha hl)), fun k hk => ⟨key _ _ (hTS k hk).1, key _ _ (hTS k hk).2⟩, ?_, blk_below l1 hb3, fun j x hx => ?_, heap_alloc_new _ _, hB2.trans (hb3.mono hB2.size)⟩
  · exact blk_below ((hf.block Vb (by simp; omega) (by omega)).trans ((Below.heap_alloc _ _ _ hVlt).trans hV)) hb3
  · obtain ⟨gl, e, hc⟩ := l3 j x hx
    exact ⟨gl, e, key _ _ hc⟩

theorem Out.unknown {m len k : Nat} {c : Int} {g : Nat → Int × Bool} {T : Nat → Nat × Bool} {gn : Int} {gk : Bool} {ev : Value} {its : List Nat} (h : Out m len c g T gn gk ev its) (hk : k < m) (hkn : ∀ j, j < k → (vv len g (T j).1).2 = true) (hun : (vv len g (T k).1).2 = false) : gn = 0 ∧ gk = false ∧ ev = .nilIface ∧ its = items T (k + 1) := by
  rcases h with ⟨k', h1, h2, h3, h4, h5, h6, h7⟩ | ⟨h1, _⟩
  · have e : k' = k := by
      rcases Nat.lt_trichotomy k' k with h | h | h
      · rw [hkn k' h] at h3; cases h3
      · exact h
      · rw [h2 k h] at hun; cases hun
    subst e
    exact ⟨h4, h5, h6, h7⟩
  · rw [h1 k hk] at hun; cases hun
theorem Out.known {m len : Nat} {c : Int} {g : Nat → Int × Bool} {T : Nat → Nat × Bool} {gn : Int} {gk : Bool} {ev : Value} {its : List Nat} (h : Out m len c g T gn gk ev its) (hkn : ∀ j, j < m → (vv len g (T j).1).2 = true) :
    its = items T m ∧ ((I64 (psum c len g T m) ∧ gn = psum c len g T m ∧ gk = true ∧ ev = .nilIface) ∨ (¬ I64 (psum c len g T m) ∧ gn = 0 ∧ gk = false ∧ ∃ p, ev = .iface 54 (.pointer (some p)))) := by
  rcases h with ⟨k', h1, h2, h3, _⟩ | ⟨_, h2⟩
  · rw [hkn k' h1] at h3; cases h3
  · exact h2
theorem items_len (T : Nat → Nat × Bool) (k : Nat) : (items T k).length = k := by simp [items]
theorem items_get (T : Nat → Nat × Bool) {k i : Nat} (h : i < k) : (items T k)[i]? = some (T i).1 := by simp [items, h]
theorem below_drewN {B : Nat} {w W : World} (h : Below B w W) (n : Nat) : Below B w (W.drewN n) := ⟨h.os, h.tape, h.output, h.size, h.block⟩

set_option maxHeartbeats 8000000 in
set_option maxRecDepth 4000 in
theorem law_any (F : Interp) (w : World) (hF : F.answers w.tape) (cn cw : Int) (m mc len cap : Nat) (ta a : Option Addr) (f : Nat → Nat × Bool) (g : Nat → Int × Bool) (hcn : I64 cn) (h0 : -1099511627776 ≤ cw) (h1 : cw ≤ 1099511627776) (hm : m ≤ 1024) (hT : InT w ta m f) (hI : InV w a len g) :
    Calls Ybaf.prog 3 #[.int .i64 cn, .int .i64 cw, .slice ta m mc, .slice a len cap] w fun e w' => e = .returned (.bool true) ∧ Below w.heap.size w w' := by
  have hmk := fun W => make_terms W m hm
  have e1 : decide ((1024 : Int) < (m : Int)) = false := by simp; omega
  have e2 : decide (1099511627776 < cw) = false := by simp; omega
  have e3 : decide (cw < -1099511627776) = false := by simp; omega
  have HT := hide hT
  have HI := hide hI
  obtain ⟨f0, hr0⟩ := made_row (w.alloc (.cells #[.slice a len cap] 23)) m
  have HP : Hid (Part ((w.alloc (.cells #[.slice a len cap] 23)).alloc (.cells (madeCells #[.int .i64 0, .bool false] (m * 2)) 28)) (w.heap.size + 1) m 0 (Tof f) ∧ Below w.heap.size w ((w.alloc (.cells #[.slice a len cap] 23)).alloc (.cells (madeCells #[.int .i64 0, .bool false] (m * 2)) 28)) ∧ ((w.alloc (.cells #[.slice a len cap] 23)).alloc (.cells (madeCells #[.int .i64 0, .bool false] (m * 2)) 28)).heap[w.heap.size]? = some (.cells #[.slice a len cap] 23 (0, 0))) := by
    refine ⟨⟨f0, by simpa using hr0, fun j hj => by omega⟩, ((Below.refl _ w).alloc (Nat.le_refl _) _).alloc (by simp) _, (Below.heap_alloc _ _ _ (by simp)).trans (heap_alloc_new w _)⟩
  clear hT hI hr0
  go_enter Ybaf.func3, Ybaf.ntmps3
  go_wp2
  generalize (w.alloc (.cells #[.slice a len cap] 23)).alloc (.cells (madeCells #[.int .i64 0, .bool false] (m * 2)) 28) = w0 at HP ⊢
  go_loopw [42] (fun s42 wr => ∃ k : Nat, k ≤ m ∧ s42 = .int .i64 k ∧ Part wr (w.heap.size + 1) m k (Tof f) ∧ Below w.heap.size w wr ∧ wr.heap[w.heap.size]? = some (.cells #[.slice a len cap] 23 (0, 0))) (fun s42 _ => m - (intOf s42).toNat)
  case atStart => exact ⟨0, by omega, rfl, HP.out⟩
  case round =>
    obtain ⟨k, hk, rfl, hP, hB, hV⟩ := hrel
    clear HP
    by_cases hkm : k < m
    · obtain ⟨b, off, rfl, l1, c0, c1⟩ := HT.out k hkm
      have hbl := World.block_lt_of_cell? w _ c0
      have d0 : wr.cell? ⟨b, off + k * 2, none⟩ = some (.int .u8 ((f k).1 : Int)) := (hB.cell (p := ⟨b, off + k * 2, none⟩) hbl).trans c0
      have d1 : wr.cell? ⟨b, off + k * 2 + 1, none⟩ = some (.bool (f k).2) := (hB.cell (p := ⟨b, off + k * 2 + 1, none⟩) hbl).trans c1
      clear c0 c1
      obtain ⟨x, hx⟩ : ∃ x, (f k).1 = x := ⟨_, rfl⟩
      obtain ⟨mi, hmi⟩ : ∃ mi, (f k).2 = mi := ⟨_, rfl⟩
      obtain ⟨y, hy⟩ : ∃ y, x % 16 = y := ⟨_, rfl⟩
      have HX : Hid ((Tof f k).1 = y ∧ (Tof f k).2 = mi) := ⟨by simp [Tof, hx, hy], by simp [Tof, hmi]⟩
      rw [hx] at d0 l1
      rw [hmi] at d1
      have tx : Int.tmod (x : Int) 16 = (y : Int) := by rw [Int.tmod_eq_emod_of_nonneg (by omega)]; omega
      have wy8 : IntKind.u8.wrap (y : Int) = (y : Int) := by rw [IntKind.wrap_u8]; omega
      have wy : IntKind.i64.wrap (y : Int) = (y : Int) := by rw [IntKind.wrap_i64]; omega
      have kk : (k : Int) < (m : Int) := by omega
      have kk0 : (0 : Int) ≤ (k : Int) := by omega
      have hwk : IntKind.i64.wrap ((k : Int) + 1) = (k : Int) + 1 := by rw [IntKind.wrap_i64]; omega
      obtain ⟨⟨u0, q0⟩, ⟨u1, q1⟩, q2⟩ := (hP.alloc (.cells #[.int .u8 (x : Int), .bool mi] 26)).cells hkm
      have q3 := q2 (k * 2)
      have q4 := q2 (k * 2 + 1)
      have HQ : Hid (Part wr (w.heap.size + 1) m k (Tof f) ∧ Below w.heap.size w wr ∧ wr.heap[w.heap.size]? = some (.cells #[.slice a len cap] 23 (0, 0))) := ⟨hP, hB, hV⟩
      clear hP hB hV q2 hx hmi hy
      go_wp2
      have hq := HQ.out
      refine ⟨⟨k + 1, by omega, by go_num, ?_, ?_, ?_⟩, by simp [intOf]; omega⟩
      · rw [← HX.out.1, ← HX.out.2]
        exact (hq.1.alloc _).set
      · exact ((hq.2.1.alloc hq.2.1.size _).setCell (by simp) _).setCell (by simp) _
      · have hlt : w.heap.size < wr.heap.size := (Array.getElem?_eq_some_iff.1 hq.2.2).1
        exact (Below.heap_setCell _ _ _ _ (by simp)).trans ((Below.heap_setCell _ _ _ _ (by simp)).trans ((Below.heap_alloc _ _ _ hlt).trans hq.2.2))
    · have e : m = k := by omega
      subst e
      have HQ : Hid (Part wr (w.heap.size + 1) m m (Tof f) ∧ Below w.heap.size w wr ∧ wr.heap[w.heap.size]? = some (.cells #[.slice a len cap] 23 (0, 0))) := ⟨hP, hB, hV⟩
      clear hP hB hV
      have HEV : Hid (Calls Ybaf.prog 6 #[.agg #[.int .i64 cn, .int .i64 cw, .slice (some ⟨w.heap.size + 1, 0, none⟩) m m], .func (.func 4) #[] #[.pointer (some ⟨wr.heap.size, 0, none⟩), .pointer (some ⟨w.heap.size, 0, none⟩)]] (wr.alloc (.cells #[.slice none 0 0] 29))
          fun e w' => Ans (wr.alloc (.cells #[.slice none 0 0] 29)) w' wr.heap.size m len (cw * 18446744073709551616 + cn) g (Tof f) e) := by
        have hq := HQ.out
        have hlt : w.heap.size < wr.heap.size := (Array.getElem?_eq_some_iff.1 hq.2.2).1
        have hTlt : w.heap.size + 1 < wr.heap.size := by obtain ⟨f, hr, _⟩ := hq.1; exact hr.lt
        have hB1 : Below w.heap.size w (wr.alloc (.cells #[.slice none 0 0] 29)) := hq.2.1.alloc hq.2.1.size _
        refine eval_any F _ (by rw [hB1.tape]; exact hF) wr.heap.size w.heap.size (w.heap.size + 1) m len cap a cn cw g (Tof f) hm (heap_alloc_new wr _) ((Below.heap_alloc _ _ _ hlt).trans hq.2.2) (HI.out.same fun b off ha hl => hB1.block b (HI.out.lt ha hl)) (fun b off ha hl => by have := HI.out.lt ha hl; omega) (hq.1.alloc _).ts (by omega) (fun k _ => by simp only [Tof]; omega) hcn h0 h1
      obtain ⟨S0, hS0⟩ : ∃ S0, cw * 18446744073709551616 + cn = S0 := ⟨_, rfl⟩
      have k1 : IntKind.u64.wrap cn = lo S0 := by rw [← hS0, lo_start, IntKind.wrap_u64]
      have HS0 := hide hS0
      rw [hS0] at HEV
      clear hS0
      go_upto_if 74 with (go_at_call 6; refine HEV.out.mono ?_; rintro e w2 hA; obtain ⟨gn, gb, ev, its, rfl, hlf, hout⟩ := hA.out; have HO := hide hout; obtain ⟨la, lc, hst⟩ := st_of (gn := gn) (gk := gb) HI.out HQ.out.1 HQ.out.2.1 HQ.out.2.2 rfl hlf; have HS := hide hst; clear hA hlf hout hst)
      go_cut [17] from 69 to 76 (fun s17 wx => Value.int .u64 (hi S0) = s17 ∧ w2.alloc (.cells #[.int .i64 gn, .bool gb] 31) = wx)
      case first =>
        by_cases hc : cn < 0
        · have k2 : IntKind.u64.wrap (IntKind.u64.wrap cw - 1) = hi S0 := by rw [← HS0.out, hi_start_neg cn cw hcn hc, IntKind.wrap_u64, IntKind.wrap_u64]
          go_wp2
          go_meet
          case rel => exact ⟨rfl, rfl⟩
        · have hc' : decide (cn < 0) = false := by simpa using hc
          have k2 : IntKind.u64.wrap cw = hi S0 := by rw [← HS0.out, hi_start_pos cn cw hcn hc, IntKind.wrap_u64]
          go_wp2
          go_meet
          case rel => exact ⟨rfl, rfl⟩
      case rest =>
        obtain ⟨rfl, rfl⟩ := hcut
        clear HEV HQ k1
        obtain ⟨L, hL⟩ : ∃ L, wr.heap.size = L := ⟨_, rfl⟩
        obtain ⟨Gb, hGb⟩ : ∃ Gb, w2.heap.size = Gb := ⟨_, rfl⟩
        rw [hL, hGb] at HS
        rw [hL, hGb]
        generalize w2.alloc (.cells #[.int .i64 gn, .bool gb] 31) = w3 at HS ⊢
        clear hL hGb
        go_wp2
        go_loopg [16, 17, 18, 19, 79] m (fun gk s16 s17 s18 s19 s79 wr => ∃ k : Nat, k ≤ m ∧ gk = m - k ∧ s16 = .int .u64 (lo (psum S0 len g (Tof f) k)) ∧ s17 = .int .u64 (hi (psum S0 len g (Tof f) k)) ∧ s18 = .bool true ∧ s19 = .int .i64 k ∧ s79 = .int .i64 k ∧ (∀ j, j < k → (vv len g (Tof f j).1).2 = true) ∧ ST w wr w.heap.size (w.heap.size + 1) L Gb m len cap a g (Tof f) gn gb its la lc)
        case atStart => exact ⟨0, by omega, by omega, rfl, rfl, rfl, rfl, rfl, fun j hj => by omega, HS.out⟩
        case round =>
          obtain ⟨k, hk, hgk, rfl, rfl, rfl, rfl, rfl, hkn, hST⟩ := hrel
          clear HS
          by_cases hkm : k < m
          · obtain ⟨it, hit⟩ : ∃ it, (Tof f k).1 = it := ⟨_, rfl⟩
            obtain ⟨mi, hmi⟩ : ∃ mi, (Tof f k).2 = mi := ⟨_, rfl⟩
            have hit2 : it < 256 := by rw [← hit]; simp only [Tof]; omega
            obtain ⟨d0, d1⟩ := hST.terms k hkm
            rw [hit] at d0
            rw [hmi] at d1
            have d2 := cell_of_one hST.box
            have d2' := fun o => cell_alloc_some (o := o) d2
            have kk : (k : Int) < (m : Int) := by omega
            have kk0 : (0 : Int) ≤ (k : Int) := by omega
            have hwk : IntKind.i64.wrap ((k : Int) + 1) = (k : Int) + 1 := by rw [IntKind.wrap_i64]; omega
            obtain ⟨v, hv⟩ : ∃ v, (vv len g it).1 = v := ⟨_, rfl⟩
            obtain ⟨kn, hkn2⟩ : ∃ kn, (vv len g it).2 = kn := ⟨_, rfl⟩
            have hv64 : I64 v := hv ▸ vv_i64 HI.out hit2
            have HC : Hid (∀ o, Calls Ybaf.prog 5 #[.slice a len cap, .int .i64 (it : Int)] (wr.alloc o) fun e w' => e = .returned (.agg #[.int .i64 v, .bool kn]) ∧ Below (wr.alloc o).heap.size (wr.alloc o) w') := by
              intro o
              rw [← hv, ← hkn2]
              exact val_any _ a len cap it g (hST.vals'.same fun b off ha hl => Below.heap_alloc _ _ _ (hST.vals'.lt ha hl)) hit2
            have HX : Hid ((Tof f k).1 = it ∧ (Tof f k).2 = mi ∧ (vv len g it).1 = v ∧ (vv len g it).2 = kn) := ⟨hit, hmi, hv, hkn2⟩
            have HK : Hid ((∀ j, j < k → (vv len g (Tof f j).1).2 = true) ∧ ST w wr w.heap.size (w.heap.size + 1) L Gb m len cap a g (Tof f) gn gb its la lc) := ⟨hkn, hST⟩
            clear hit hmi hv hkn2 hkn hST
            cases kn with
            | false =>
              obtain ⟨rfl, rfl, rfl, rfl⟩ := HO.out.unknown hkm HK.out.1 (by rw [HX.out.1]; exact HX.out.2.2.2)
              have l0 := cell_of_one HK.out.2.log
              rw [items_len] at l0
              go_upto_if 130 with (go_at_call 5; refine (HC.out _).mono ?_; rintro _ w5 ⟨rfl, hB5⟩; have HST4 : Hid (∀ o, ST w (w5.alloc o) w.heap.size (w.heap.size + 1) L Gb m len cap a g (Tof f) 0 false (items (Tof f) (k + 1)) la lc) := (fun o => ((HK.out.2.below ((Below.refl _ _).alloc (Nat.le_refl _) _)).below hB5).below ((Below.refl _ _).alloc (Nat.le_refl _) o)); have l1 := fun o => cell_of_one (HST4.out o).log; simp only [items_len] at l1; clear hB5 l0 d0 d1 d2 d2')
              have HST5 := hide (HST4.out (.cells #[.int .i64 v, .bool false] 31))
              clear HST4 l1 HC
              generalize w5.alloc (.cells #[.int .i64 v, .bool false] 31) = w6 at HST5 ⊢
              have l1 := cell_of_one HST5.out.log
              rw [items_len] at l1
              go_wp2
              go_loopw [26] (fun s26 wr2 => ∃ i : Nat, i ≤ k + 1 ∧ s26 = .int .i64 i ∧ ST w wr2 w.heap.size (w.heap.size + 1) L Gb m len cap a g (Tof f) 0 false (items (Tof f) (k + 1)) la lc) (fun s26 _ => k + 1 - (intOf s26).toNat)
              case atStart => exact ⟨0, by omega, rfl, HST5.out⟩
              case round =>
                obtain ⟨i, hile, rfl, hST⟩ := hrel
                have l1 := cell_of_one hST.log
                rw [items_len] at l1
                by_cases hik : i < k + 1
                · obtain ⟨gl, rfl, l2⟩ := hST.seen i _ (items_get (Tof f) hik)
                  have l3 := (hST.terms i (by omega)).1
                  obtain ⟨x, hx⟩ : ∃ x, (Tof f i).1 = x := ⟨_, rfl⟩
                  rw [hx] at l2 l3
                  have ii : (i : Int) < ((k : Int) + 1) := by omega
                  have im : (i : Int) < (m : Int) := by omega
                  have ii0 : (0 : Int) ≤ (i : Int) := by omega
                  have hwi : IntKind.i64.wrap ((i : Int) + 1) = (i : Int) + 1 := by rw [IntKind.wrap_i64]; omega
                  have HS2 := hide hST
                  clear hST hx
                  go_wp2
                  go_quiet (fail)
                  go_wp2
                  exact ⟨⟨i + 1, by omega, by go_num, HS2.out.below (below_drewN (Below.refl _ _) _)⟩, by simp [intOf]; omega⟩
                · have ii : decide (i < k + 1) = false := by simp; omega
                  obtain ⟨y1, y2, -, -⟩ := pair_cells hST.got
                  have HS2 := hide hST
                  clear hST
                  go_wp2
                  go_ret
                  exact ⟨rfl, HS2.out.bel⟩
            | true =>
              have k3 : IntKind.u64.wrap v = lo v := by rw [IntKind.wrap_u64]; rfl
              obtain ⟨S, hS⟩ : ∃ S, psum S0 len g (Tof f) k = S := ⟨_, rfl⟩
              have HSS := hide hS
              rw [hS]
              clear hS
              go_upto_if 97 with (go_at_call 5; refine (HC.out _).mono ?_; rintro _ w5 ⟨rfl, hB5⟩; have HST4 : Hid (∀ o, ST w (w5.alloc o) w.heap.size (w.heap.size + 1) L Gb m len cap a g (Tof f) gn gb its la lc) := (fun o => ((HK.out.2.below ((Below.refl _ _).alloc (Nat.le_refl _) _)).below hB5).below ((Below.refl _ _).alloc (Nat.le_refl _) o)); have f2 := (pair_far (blk_below (heap_alloc_new wr (.cells #[.int .i64 (it : Int), .bool mi] 28)) hB5) (.cells #[.int .i64 v, .bool true] 31)).2.1; clear hB5 d0 d1 d2 d2')
              have HST6 := hide (HST4.out (.cells #[.int .i64 v, .bool true] 31))
              have f3 : (w5.alloc (.cells #[.int .i64 v, .bool true] 31)).heap[w5.heap.size]? = some (.cells #[.int .i64 v, .bool true] 31 (0, 0)) := heap_alloc_new _ _
              obtain ⟨f4, -, -, -⟩ := pair_cells f3
              clear HST4 HC f3
              generalize w5.alloc (.cells #[.int .i64 v, .bool true] 31) = w6 at HST6 f2 f4 ⊢
              go_cut [24, 79] from 79 to 126 (fun s24 s79 wx => Value.int .u64 (vh v) = s24 ∧ Value.int .i64 (k : Int) = s79 ∧ w6 = wx)
              case first =>
                by_cases hc : v < 0
                · have e : vh v = 18446744073709551615 := by simp [vh, hc]
                  go_wp2
                  go_meet
                  case rel => exact ⟨by rw [e], rfl, rfl⟩
                · have hc' : decide (v < 0) = false := by simpa using hc
                  have e : vh v = 0 := by simp [vh, hc]
                  go_wp2
                  go_meet
                  case rel => exact ⟨by rw [e], rfl, rfl⟩
              case rest =>
                obtain ⟨rfl, rfl, rfl⟩ := hcut
                cases mi with
                | true =>
                  have hs1 := sub_lo S v
                  obtain ⟨c2, hs2⟩ := sub_hi S v hv64
                  obtain ⟨bc, hbc⟩ : ∃ bc, (if lo S < lo v then 1 else 0 : Int) = bc := ⟨_, rfl⟩
                  rw [hbc] at hs2
                  simp only [hbc] at hs1
                  clear hbc
                  go_wp2_with (first | simp only [hs1] | simp only [hs2])
                  go_roundg (m - (k + 1))
                  case measure => omega
                  case rel =>
                    have hx := HX.out
                    have e : psum S0 len g (Tof f) (k + 1) = S - v := by rw [psum, HSS.out, hx.1, hx.2.1, hx.2.2.1]; simp only [sgn]; try omega
                    refine ⟨k + 1, by omega, rfl, by rw [e], by rw [e], rfl, by go_num, by go_num, fun j hj => ?_, HST6.out⟩
                    by_cases ej : j = k
                    · subst ej; rw [hx.1]; exact hx.2.2.2
                    · exact HK.out.1 j (by omega)
                | false =>
                  have hs1 := add_lo S v
                  obtain ⟨c2, hs2⟩ := add_hi S v hv64
                  obtain ⟨bc, hbc⟩ : ∃ bc, (lo S + lo v) / 18446744073709551616 = bc := ⟨_, rfl⟩
                  rw [hbc] at hs2
                  simp only [hbc] at hs1
                  clear hbc
                  go_wp2_with (first | simp only [hs1] | simp only [hs2])
                  go_roundg (m - (k + 1))
                  case measure => omega
                  case rel =>
                    have hx := HX.out
                    have e : psum S0 len g (Tof f) (k + 1) = S + v := by rw [psum, HSS.out, hx.1, hx.2.1, hx.2.2.1]; simp only [sgn]; try omega
                    refine ⟨k + 1, by omega, rfl, by rw [e], by rw [e], rfl, by go_num, by go_num, fun j hj => ?_, HST6.out⟩
                    by_cases ej : j = k
                    · subst ej; rw [hx.1]; exact hx.2.2.2
                    · exact HK.out.1 j (by omega)
          · have e : m = k := by omega
            subst e
            obtain ⟨rfl, hcase⟩ := HO.out.known hkn
            have HST5 := hide hST
            have hbd := psum_bnd HI.out (Tof f) cn cw hcn h0 h1 m (fun j _ => by simp only [Tof]; omega) m (Nat.le_refl _)
            rw [HS0.out] at hbd
            obtain ⟨S, hS⟩ : ∃ S, psum S0 len g (Tof f) m = S := ⟨_, rfl⟩
            rw [hS] at hbd hcase ⊢
            have hfit := fits_iff S (by omega) (by omega)
            have HF := hide hfit
            have HCs := hide hcase
            have hbk := fun h => back S h
            have HBK := hide hbk
            clear hST hS hbd hfit hcase hkn hbk HO
            have l1 := cell_of_one HST5.out.log
            rw [items_len] at l1
            go_wp2
            go_loopw [26] (fun s26 wr2 => ∃ i : Nat, i ≤ m ∧ s26 = .int .i64 i ∧ ST w wr2 w.heap.size (w.heap.size + 1) L Gb m len cap a g (Tof f) gn gb (items (Tof f) (m)) la lc) (fun s26 _ => m - (intOf s26).toNat)
            case atStart => exact ⟨0, by omega, rfl, HST5.out⟩
            case round =>
              obtain ⟨i, hile, rfl, hST⟩ := hrel
              have l1 := cell_of_one hST.log
              rw [items_len] at l1
              by_cases hik : i < m
              · obtain ⟨gl, rfl, l2⟩ := hST.seen i _ (items_get (Tof f) hik)
                have l3 := (hST.terms i (by omega)).1
                obtain ⟨x, hx⟩ : ∃ x, (Tof f i).1 = x := ⟨_, rfl⟩
                rw [hx] at l2 l3
                have ii : (i : Int) < (m : Int) := by omega
                have ii0 : (0 : Int) ≤ (i : Int) := by omega
                have hwi : IntKind.i64.wrap ((i : Int) + 1) = (i : Int) + 1 := by rw [IntKind.wrap_i64]; omega
                have HS2 := hide hST
                clear hST hx
                go_wp2
                go_quiet (fail)
                go_wp2
                exact ⟨⟨i + 1, by omega, by go_num, HS2.out.below (below_drewN (Below.refl _ _) _)⟩, by simp [intOf]; omega⟩
              · have ii : decide (i < m) = false := by simp; omega
                obtain ⟨y1, y2, -, -⟩ := pair_cells hST.got
                have HS2 := hide hST
                clear hST
                rcases HCs.out with ⟨c1, rfl, rfl, rfl⟩ | ⟨c1, rfl, rfl, p, rfl⟩
                · have c3 := HBK.out c1
                  rcases HF.out.1 c1 with ⟨c4, c5⟩ | ⟨c4, c5⟩
                  · clear c1
                    go_wp2
                    go_ret
                    exact ⟨rfl, HS2.out.bel⟩
                  · clear c1
                    go_wp2
                    go_ret
                    exact ⟨rfl, HS2.out.bel⟩
                · have c3 : ¬ ((hi S = 0 ∧ lo S < 9223372036854775808) ∨ (hi S = 18446744073709551615 ∧ 9223372036854775808 ≤ lo S)) := fun h => c1 (HF.out.2 h)
                  rcases (show (hi S = 0 ∧ ¬ lo S < 9223372036854775808) ∨ (hi S = 18446744073709551615 ∧ ¬ 9223372036854775808 ≤ lo S) ∨ (¬ hi S = 0 ∧ ¬ hi S = 18446744073709551615) from by omega) with ⟨c4, c5⟩ | ⟨c4, c5⟩ | ⟨c4, c5⟩
                  · clear c1 c3
                    go_wp2
                    go_ret
                    exact ⟨rfl, HS2.out.bel⟩
                  · clear c1 c3
                    go_wp2
                    go_ret
                    exact ⟨rfl, HS2.out.bel⟩
                  · clear c1 c3
                    have c6 : (hi S == 0) = false := by simpa using c4
                    have c7 : (hi S == 18446744073709551615) = false := by simpa using c5
                    go_wp2
                    go_ret
                    exact ⟨rfl, HS2.out.bel⟩
end Go.Proofs.YbulkcgnkFmt
