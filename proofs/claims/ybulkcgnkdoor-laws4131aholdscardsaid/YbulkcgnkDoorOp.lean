import Derived.Test.YbulkcgnkDoorLI
namespace Go.Proofs.YbulkcgnkDoor
open Go.RowKit

theorem info41 : (Ybad.prog.info? 41).map (fun i => (i.zero, i.size, i.bytes)) = some (some (.agg #[.int .i64 0, .slice none 0 0]), 2, 32) := by kernel_rfl
theorem info44 : (Ybad.prog.info? 44).map (fun i => (i.zero, i.size, i.bytes)) = some (some (.agg #[.int .i64 0, .int .u16 0]), 2, 16) := by kernel_rfl
theorem info29 : (Ybad.prog.info? 29).map (fun i => (i.zero, i.size, i.bytes)) = some (some (.agg #[.int .i64 0, .int .i64 0, .int .i64 0]), 3, 24) := by kernel_rfl

theorem li_start {w wr : World} {tv : Value} {T : Nat → Nat → Nat × Nat} {cnt : Nat → Nat} {i : Nat} {S : Nat → Value} {L : Nat → List LK} {who : Nat → Option (Nat × Option Nat)} {dom : List Int}
    (h : Core w tv wr S L who dom) (hlk : ∀ it, (L it).map (fun l => (l.txn, l.hs)) = doneL T cnt it i) (g : Int → Value) :
    LI w tv T cnt i wr.heap.size (wr.heap.size + 1) 0 ((wr.alloc (.map #[] 0)).alloc (.map #[] 0)) S L who dom [] g [] g := by
  have hs := h.size
  refine ⟨(h.alloc _).alloc _, fun it => (hlk it).trans (curL_zero T cnt it i).symm, (mapF_new wr g).alloc _, fun it _ => rfl, ?_, fun it _ => by simp [runH], fun it _ h => by simp at h, hs, by omega, by omega⟩
  have := mapF_new (wr.alloc (.map #[] 0)) g
  rwa [World.size_alloc] at this

theorem own_slice {W : World} {B e n : Nat} {v : Value} {xs : List Value} (h : W.ownsRow B e 2 v n xs) : ∃ a c, v = .slice a n c := by
  rcases h.2 with ⟨e1, e2⟩ | ⟨g', cp, cur, e, _⟩
  · exact ⟨none, 0, by rw [e1, e2]⟩
  · exact ⟨_, _, e⟩

/-- The operation's own copy. -/
def OpAt (W : World) (P k : Nat) (t : Int) (it : Nat) : Prop := W.heap[P]? = some (.cells #[.int .i64 (k : Int), .int .i64 t, .int .i64 (it : Int)] 29 (0, 0))

section
variable {W W' : World} {P k it : Nat} {t : Int}
theorem opAt_new (W : World) (k : Nat) (t : Int) (it : Nat) : OpAt (W.alloc (Obj.cells #[Value.int IntKind.i64 (k : Int), Value.int IntKind.i64 t, Value.int IntKind.i64 (it : Int)] 29)) W.heap.size k t it := heap_alloc_new W _
theorem OpAt.lt (h : OpAt W P k t it) : P < W.heap.size := (Array.getElem?_eq_some_iff.1 h).1
theorem OpAt.c0 (h : OpAt W P k t it) : W.cell? ⟨P, 0, none⟩ = some (.int .i64 (k : Int)) := by simp only [World.cell?]; rw [h]; rfl
theorem OpAt.c2 (h : OpAt W P k t it) : W.cell? ⟨P, 2, none⟩ = some (.int .i64 (it : Int)) := by simp only [World.cell?]; rw [h]; rfl
theorem OpAt.alloc (h : OpAt W P k t it) (o : Obj) : OpAt (W.alloc o) P k t it := (Below.heap_alloc _ _ _ h.lt).trans h
theorem OpAt.drewN (h : OpAt W P k t it) (n : Nat) : OpAt (W.drewN n) P k t it := h
theorem OpAt.touch {M : Nat} {dom : List Int} {g : Int → Value} (h : OpAt W P k t it) (hm : MapF W M dom g) (ht : Touch [M] W W') : OpAt W' P k t it :=
  (ht.block P h.lt (by simp; exact (hm.ne_cells h).symm)).trans h
theorem OpAt.ne_own {B e n : Nat} {v : Value} {xs : List Value} (h : OpAt W P k t it) (ho : W.ownsRow B e 2 v n xs) (he : e ≠ 29) : v.ownBlock ≠ some P := by
  intro hv
  rcases ho.2 with ⟨rfl, _⟩ | ⟨b, cp, cur, rfl, _, hg, _⟩
  · simp [Value.ownBlock] at hv
  · simp [Value.ownBlock] at hv
    subst hv
    rw [h] at hg
    simp at hg
    exact he hg.2.symm
theorem OpAt.grown {row : Option Nat} (h : OpAt W P k t it) (hg : W.grownBy W' row) (hn : row ≠ some P) : OpAt W' P k t it := (hg.block P h.lt (Ne.symm hn)).trans h
theorem OpAt.setCell {a : Addr} (h : OpAt W P k t it) (ha : P ≠ a.block) (v : Value) : OpAt (W.setCell a v) P k t it := (Below.heap_setCell _ _ _ _ ha).trans h
end

section
variable {w : World} {tv : Value} {T : Nat → Nat → Nat × Nat} {cnt : Nat → Nat} {i Hd Mn q it P k len : Nat} {t : Int} {W W' : World} {S : Nat → Value} {L : Nat → List LK} {who : Nat → Option (Nat × Option Nat)} {dom hdom : List Int} {hg : Int → Value} {mdom : List Int} {mg : Int → Value}

theorem Core.lg (h : Core w tv W S L who dom) : W.cell? ⟨w.heap.size + 1, 1, none⟩ = some (.map (some w.heap.size)) := by
  simp only [World.cell?]; rw [h.p0]; rfl

/-- 'mine[it] = len(..)' is laid. -/
structure LF (w : World) (tv : Value) (T : Nat → Nat → Nat × Nat) (cnt : Nat → Nat) (i Hd Mn q it P k len : Nat) (t : Int) (W W2 : World) (S : Nat → Value) (L : Nat → List LK) (who : Nat → Option (Nat × Option Nat)) (dom hdom : List Int) (hg : Int → Value) (mdom : List Int) (mg : Int → Value) : Prop where
  li : LI w tv T cnt i Hd Mn q W S L who dom hdom hg mdom mg
  nm : (it : Int) ∉ mdom
  core : Core w tv W2 S L who dom
  hm : MapF W2 Hd hdom hg
  mm : MapF W2 Mn (domPut mdom it) (valPut mg it (.int .i64 (len : Int)))
  op : OpAt W2 P k t it

theorem LI.lay (h : LI w tv T cnt i Hd Mn q W S L who dom hdom hg mdom mg) (ho : OpAt W P k t it) (hm : (it : Int) ∉ mdom) (hlen : (doneL T cnt it i).length = len) :
    ∃ W2, (Instr.mapUpdate 47 (.map (some Mn)) (.int .i64 (it : Int)) (.int .i64 (len : Int))).run Ybad.prog W = .ok () W2 ∧ LF w tv T cnt i Hd Mn q it P k len t W W2 S L who dom hdom hg mdom mg := by
  subst hlen
  obtain ⟨W', hr, hm', ht⟩ := h.mm.put Ybad.underlying47 Ybad.underlying3 (it : Int) (.int .i64 ((doneL T cnt it i).length : Int))
  exact ⟨W', hr, h, hm, h.core.other h.mm h.bm ht, h.hm.touch ht (by simp [h.ne]), hm', ho.touch h.mm ht⟩

theorem LF.own {v : Value} (h : LF w tv T cnt i Hd Mn q it P k len t W' W S L who dom hdom hg mdom mg) (hit : it < 4) (hlen : (doneL T cnt it i).length = len) (hS : S it = v) : W.ownsRow (w.heap.size + 2) 41 2 v len (lcells (L it)) := by
  have hLl : (L it).length = len := (h.li.fresh hit h.nm).2.1.trans hlen
  have := h.core.own.lock it
  rwa [hLl, hS] at this

/-- The locker, and with it what the tail stands on. -/
theorem LF.laid {W1 : World} {g cap H : Nat} {o : Obj} {v : Value} (h : LF w tv T cnt i Hd Mn q it P k len t W' W S L who dom hdom hg mdom mg) (hit : it < 4) (hlen : (doneL T cnt it i).length = len) (hS : S it = v) (hH : (W.alloc o).drew.heap.size = H)
    (ho : W1.ownsRow (w.heap.size + 2) 41 2 (.slice (some ⟨g, 0, none⟩) (len + 1) cap) (len + 1) (lcells (L it) ++ [.int .i64 (i : Int), .slice none 0 0])) (hgr : (W.alloc o).drew.grownBy W1 v.ownBlock) (hat : v.ownBlock = some g ∨ g = H) :
    W1.cell? ⟨w.heap.size + 1, 1, none⟩ = some (.map (some w.heap.size)) ∧ W1.cell? ⟨P, 2, none⟩ = some (.int .i64 (it : Int)) ∧
    ∃ W2, (Instr.mapUpdate 32 (.map (some w.heap.size)) (.int .i64 (it : Int)) (.slice (some ⟨g, 0, none⟩) (len + 1) cap)).run Ybad.prog W1 = .ok () W2 ∧ OpAt W2 P k t it ∧ W2.cell? ⟨w.heap.size + 1, 1, none⟩ = some (.map (some w.heap.size)) ∧
      Hid (∃ S L who dom mdom mg, LJ w tv T cnt i Hd Mn q it W2 S L who dom hdom hg mdom mg) := by
  subst hS
  have hLl : (L it).length = len := (h.li.fresh hit h.nm).2.1.trans hlen
  have C1 : Core w tv (W.alloc o).drew S L who dom := (h.core.alloc o).drewN 1
  have hsz := C1.size
  have hfar : (S it).ownBlock ≠ some (w.heap.size + 1) := fun e => by have := ((C1.own.lock it).lt _ e).1; omega
  have op0 : OpAt (W.alloc o).drew P k t it := (h.op.alloc o).drewN 1
  have op1 := op0.grown hgr (op0.ne_own (C1.own.lock it) (by decide))
  subst hLl
  obtain ⟨W2, hr, hC, hM⟩ := C1.newLock hit hH ho hgr hat
  refine ⟨(hgr.cell_far ⟨w.heap.size + 1, 1, none⟩ (by simp only []; omega) (Ne.symm hfar)).trans C1.lg, op1.c2, W2, hr, ?_, hC.lg, ?_⟩
  · have m1 := C1.mp.grown hgr (fun e => by have := ((C1.own.lock it).lt _ e).1; omega)
    obtain ⟨W3, hr3, _, ht⟩ := m1.put Ybad.underlying32 Ybad.underlying3 (it : Int) (.slice (some ⟨g, 0, none⟩) ((L it).length + 1) cap)
    rw [hr] at hr3
    cases hr3
    exact op1.touch m1 ht
  · have h1 := hM Hd _ _ h.li.bh ((h.hm.alloc o).drewN 1)
    have h2 := hM Mn _ _ h.li.bm ((h.mm.alloc o).drewN 1)
    rw [← hlen] at h2
    exact ⟨_, _, _, _, _, _, h.li.laid hit h.nm hC h1 h2⟩

/-- What 'mine' answers. -/
theorem LI.ask (h : LI w tv T cnt i Hd Mn q W S L who dom hdom hg mdom mg) (hit : it < 4) (hlen : (doneL T cnt it i).length = len) :
    ∃ v b, (Instr.lookup 47 (.map (some Mn)) (.int .i64 (it : Int)) true).run Ybad.prog W = .ok (.tuple #[v, .bool b]) W ∧
      ((b = true ∧ v = .int .i64 (len : Int) ∧ (it : Int) ∈ mdom) ∨ (b = false ∧ (it : Int) ∉ mdom)) := by
  have hlo := h.mm.lookOk Ybad.underlying47 Ybad.underlying3 (z := .int .i64 0) (fun _ => by kernel_rfl) (it : Int)
  by_cases hm : (it : Int) ∈ mdom
  · rw [if_pos hm, decide_eq_true hm] at hlo
    exact ⟨_, _, hlo, .inl ⟨rfl, by rw [h.mv it hit hm, hlen], hm⟩⟩
  · rw [if_neg hm, decide_eq_false hm] at hlo
    exact ⟨_, _, hlo, .inr ⟨rfl, hm⟩⟩

/-- 'held[it] = v' is laid. -/
theorem LJ.held (h : LJ w tv T cnt i Hd Mn q it W S L who dom hdom hg mdom mg) (ho : OpAt W P k t it) (hit : it < 4) (hk : (T i q).1 = k) (hI : (T i q).2 = it) (hr : rel k = true)
    (hv : ∀ it' : Nat, it' < 4 → (if (it' : Int) ∈ hdom then hg it' else .int .u16 0) = .int .u16 (runH (T i) it' q).1) {v : Int} (ev : v = heldAfter (runH (T i) it q).1 k) :
    ∃ W', (Instr.mapUpdate 46 (.map (some Hd)) (.int .i64 (it : Int)) (.int .u16 v)).run Ybad.prog W = .ok () W' ∧ OpAt W' P k t it ∧
      ∃ hdom' hg', LJ w tv T cnt i Hd Mn q it W' S L who dom hdom' hg' mdom mg ∧ ∀ it' : Nat, it' < 4 → (if (it' : Int) ∈ hdom' then hg' it' else .int .u16 0) = .int .u16 (runH (T i) it' (q + 1)).1 := by
  obtain ⟨W', hr', hm', ht⟩ := h.hm.put Ybad.underlying46 Ybad.underlying3 (it : Int) (.int .u16 v)
  refine ⟨W', hr', ho.touch h.hm ht, domPut hdom it, valPut hg it (.int .u16 v), { h with core := h.core.other h.hm h.bh ht, hm := hm', mm := h.mm.touch ht (by simp [Ne.symm h.ne]) }, fun it' h' => ?_⟩
  by_cases e : it' = it
  · subst e
    rw [if_pos (mem_domPut.2 (.inr rfl)), runH_hit (by rw [hk]; exact hr) hI, ev, hk]
    simp [valPut]
  · rw [runH_miss (.inr (by rw [hI]; exact Ne.symm e)), ← hv it' h']
    have : (it' : Int) ≠ (it : Int) := by omega
    by_cases hm : (it' : Int) ∈ hdom
    · rw [if_pos hm, if_pos (mem_domPut.2 (.inl hm))]
      simp [valPut, this]
    · rw [if_neg hm, if_neg]
      intro hc
      rcases mem_domPut.1 hc with hc | hc
      · exact hm hc
      · exact this hc
theorem LJ.heldNow (h : LJ w tv T cnt i Hd Mn q it W S L who dom hdom hg mdom mg) (hit : it < 4)
    (hv : ∀ it' : Nat, it' < 4 → (if (it' : Int) ∈ hdom then hg it' else .int .u16 0) = .int .u16 (runH (T i) it' q).1) :
    (Instr.lookup 46 (.map (some Hd)) (.int .i64 (it : Int)) false).run Ybad.prog W = .ok (.int .u16 (runH (T i) it q).1) W := by
  rw [h.hm.look Ybad.underlying46 Ybad.underlying3 (z := .int .u16 0) (fun _ => by kernel_rfl) it, hv it hit]
theorem LJ.heldNext (h : LJ w tv T cnt i Hd Mn q it W S L who dom hdom hg mdom mg) (hit : it < 4)
    (hv : ∀ it' : Nat, it' < 4 → (if (it' : Int) ∈ hdom then hg it' else .int .u16 0) = .int .u16 (runH (T i) it' (q + 1)).1) :
    (Instr.lookup 46 (.map (some Hd)) (.int .i64 (it : Int)) false).run Ybad.prog W = .ok (.int .u16 (runH (T i) it (q + 1)).1) W := by
  rw [h.hm.look Ybad.underlying46 Ybad.underlying3 (z := .int .u16 0) (fun _ => by kernel_rfl) it, hv it hit]

/-- The hold, and with it the round's end. -/
theorem LJ.hold {W1 : World} {g cap H gS cS hn : Nat} {o : Obj} {l : LK} {v : Value} (h : LJ w tv T cnt i Hd Mn q it W S L who dom hdom hg mdom mg) (ho : OpAt W P k t it) (hit : it < 4) (hk : (T i q).1 = k) (hI : (T i q).2 = it) (hr : rel k = true)
    (hv : ∀ it' : Nat, it' < 4 → (if (it' : Int) ∈ hdom then hg it' else .int .u16 0) = .int .u16 (runH (T i) it' (q + 1)).1)
    (hlen : (doneL T cnt it i).length = len) (hS : S it = .slice (some ⟨gS, 0, none⟩) (len + 1) cS) (hl : (L it)[len]? = some l) (ht : l.txn = i) (hhs : l.hs = (runH (T i) it q).2) (hvv : l.hv = v) (hln : l.hs.length = hn)
    (hH : (W.alloc o).drew.heap.size = H)
    (ho1 : W1.ownsRow (w.heap.size + 2) 44 2 (.slice (some ⟨g, 0, none⟩) (hn + 1) cap) (hn + 1) (hcells l.hs ++ [.int .i64 ((q : Int) + 1), .int .u16 (runH (T i) it (q + 1)).1])) (hgr : (W.alloc o).drew.grownBy W1 v.ownBlock) (hat : v.ownBlock = some g ∨ g = H) :
    W1.cell? ⟨gS, len * 2 + 1, none⟩ = some v ∧ W1.frozen? ⟨gS, len * 2 + 1, none⟩ = false ∧ W1.cell? ⟨P, 2, none⟩ = some (.int .i64 (it : Int)) ∧
    (W1.setCell ⟨gS, len * 2 + 1, none⟩ (.slice (some ⟨g, 0, none⟩) (hn + 1) cap)).cell? ⟨P, 2, none⟩ = some (.int .i64 (it : Int)) ∧
      Hid (∃ S L who dom hdom hg mdom mg, LI w tv T cnt i Hd Mn (q + 1) (W1.setCell ⟨gS, len * 2 + 1, none⟩ (.slice (some ⟨g, 0, none⟩) (hn + 1) cap)) S L who dom hdom hg mdom mg) := by
  subst hvv hln hlen
  have C1 : Core w tv (W.alloc o).drew S L who dom := (h.core.alloc o).drewN 1
  have op0 : OpAt (W.alloc o).drew P k t it := (ho.alloc o).drewN 1
  have op1 := op0.grown hgr (op0.ne_own (C1.own.hold it _ l hl) (by decide))
  have e1 : (runH (T i) it (q + 1)).1 = heldAfter (runH (T i) it q).1 (T i q).1 := by rw [runH_hit (by rw [hk]; exact hr) hI]
  rw [e1] at ho1
  have ho2 : W1.ownsRow (w.heap.size + 2) 44 2 (.slice (some ⟨g, 0, none⟩) (l.hs.length + 1) cap) (l.hs.length + 1) (hcells l.hs ++ [.int .i64 (((q + 1, heldAfter (runH (T i) it q).1 (T i q).1) : Nat × Int).1 : Int), .int .u16 ((q + 1, heldAfter (runH (T i) it q).1 (T i q).1) : Nat × Int).2]) := by
    simpa using ho1
  obtain ⟨c1, c2, C2, hM⟩ := C1.newHold hl hS hH ho2 hgr hat
  have hne : P ≠ gS := by
    have := op0.ne_own (C1.own.lock it) (by decide)
    rw [hS] at this
    simp [Value.ownBlock] at this
    exact Ne.symm this
  refine ⟨c1, c2, op1.c2, (op1.setCell (a := ⟨gS, _, none⟩) hne _).c2, ?_⟩
  have h1 := hM Hd _ _ h.bh ((h.hm.alloc o).drewN 1)
  have h2 := hM Mn _ _ h.bm ((h.mm.alloc o).drewN 1)
  exact ⟨_, _, _, _, _, _, _, _, h.end_ hit (by rw [hk]; exact hr) hI hl ht hhs C2 h1 h2 hv⟩
end
end Go.Proofs.YbulkcgnkDoor
