import Derived.Test.YbulkcgnkDoorOwn
namespace Go.Proofs.YbulkcgnkDoor
open Go.RowKit

theorem MapF.congr {W : World} {M : Nat} {dom : List Int} {g g' : Int → Value} (h : MapF W M dom g) (e : ∀ k, k ∈ dom → g k = g' k) : MapF W M dom g' := by
  obtain ⟨es, c, hb, hn, he⟩ := h
  refine ⟨es, c, hb, hn, he.trans (List.map_congr_left fun k hk => ?_)⟩
  rw [e k hk]
theorem MapF.alloc {W : World} {M : Nat} {dom : List Int} {g : Int → Value} (h : MapF W M dom g) (o : Obj) : MapF (W.alloc o) M dom g := h.of_block (Below.heap_alloc _ _ _ h.lt)
theorem MapF.drewN {W : World} {M : Nat} {dom : List Int} {g : Int → Value} (h : MapF W M dom g) (n : Nat) : MapF (W.drewN n) M dom g := h.of_block rfl
theorem MapF.touch {W W' : World} {M : Nat} {Q : List Nat} {dom : List Int} {g : Int → Value} (h : MapF W M dom g) (ht : Touch Q W W') (hn : M ∉ Q) : MapF W' M dom g := h.of_block (ht.block M h.lt hn)
/-- A map's block is none of cells. -/
theorem MapF.ne_cells {W : World} {M b : Nat} {dom : List Int} {g : Int → Value} {c : Array Value} {e : TypeId} {fr : Nat × Nat} (h : MapF W M dom g) (hb : W.heap[b]? = some (.cells c e fr)) : M ≠ b := by
  obtain ⟨es, cl, hm, _⟩ := h
  rintro rfl
  rw [hm] at hb
  cases hb
theorem MapF.ne_own {W : World} {M B e n : Nat} {dom : List Int} {g : Int → Value} {v : Value} {xs : List Value} (h : MapF W M dom g) (ho : W.ownsRow B e 2 v n xs) : v.ownBlock ≠ some M := by
  intro hv
  rcases ho.2 with ⟨rfl, _⟩ | ⟨b, cp, cur, rfl, _, hg, _⟩
  · simp [Value.ownBlock] at hv
  · simp [Value.ownBlock] at hv
    exact h.ne_cells hg hv.symm
theorem MapF.grown {W W' : World} {M : Nat} {dom : List Int} {g : Int → Value} {row : Option Nat} (h : MapF W M dom g) (hg : W.grownBy W' row) (hn : row ≠ some M) : MapF W' M dom g :=
  h.of_block (hg.block M h.lt (Ne.symm hn))

/-- The legal, its map of lockers, and the lockers themselves. -/
structure Core (w : World) (tv : Value) (W : World) (S : Nat → Value) (L : Nat → List LK) (who : Nat → Option (Nat × Option Nat)) (dom : List Int) : Prop where
  own : Own (w.heap.size + 2) W S L who
  mp : MapF W w.heap.size dom (fun k => S k.toNat)
  md : ∀ k, k ∈ dom ↔ ∃ it : Nat, it < 4 ∧ k = (it : Int) ∧ L it ≠ []
  sn : ∀ it, L it = [] → S it = .slice none 0 0
  p0 : W.heap[w.heap.size + 1]? = some (.cells #[tv, .map (some w.heap.size)] 34 (0, 0))
  below : Below w.heap.size w W

section
variable {w : World} {tv : Value} {W W' : World} {S : Nat → Value} {L : Nat → List LK} {who : Nat → Option (Nat × Option Nat)} {dom : List Int}

theorem Core.size (h : Core w tv W S L who dom) : w.heap.size + 2 ≤ W.heap.size := (Array.getElem?_eq_some_iff.1 h.p0).1

theorem Core.alloc (h : Core w tv W S L who dom) (o : Obj) : Core w tv (W.alloc o) S L who dom :=
  ⟨h.own.alloc o, h.mp.alloc o, h.md, h.sn, (Below.heap_alloc _ _ _ (by have := h.size; omega)).trans h.p0, h.below.alloc h.below.size o⟩
theorem Core.drewN (h : Core w tv W S L who dom) (n : Nat) : Core w tv (W.drewN n) S L who dom :=
  ⟨h.own.drewN n, h.mp.drewN n, h.md, h.sn, h.p0, ⟨h.below.os, h.below.tape, h.below.output, h.below.size, h.below.block⟩⟩
/-- Another map is written. -/
theorem Core.other {M : Nat} {dm : List Int} {g : Int → Value} (h : Core w tv W S L who dom) (hm : MapF W M dm g) (hM : w.heap.size + 2 ≤ M) (ht : Touch [M] W W') : Core w tv W' S L who dom :=
  ⟨h.own.map hm ht, h.mp.touch ht (by simp; omega), h.md, h.sn, (ht.block _ (by have := h.size; omega) (by simp; omega)).trans h.p0, h.below.trans (ht.below h.below.size (by simp; omega))⟩

/-- What 'lg.lockers[it]' hands back. -/
theorem Core.get (h : Core w tv W S L who dom) {it : Nat} (hit : it < 4) : (if (it : Int) ∈ dom then S ((it : Int)).toNat else .slice none 0 0) = S it := by
  rw [Int.toNat_natCast]
  by_cases hm : (it : Int) ∈ dom
  · rw [if_pos hm]
  · rw [if_neg hm]
    refine (h.sn it ?_).symm
    cases hL : L it with
    | nil => rfl
    | cons x l => exact (hm ((h.md _).2 ⟨it, hit, rfl, by rw [hL]; simp⟩)).elim

theorem Core.look (h : Core w tv W S L who dom) {it : Nat} (hit : it < 4) : (Instr.lookup 32 (.map (some w.heap.size)) (.int .i64 (it : Int)) false).run Ybad.prog W = .ok (S it) W := by
  rw [h.mp.look Ybad.underlying32 Ybad.underlying3 (z := .slice none 0 0) (fun _ => by kernel_rfl) it, h.get hit]

/-- Behind 'lg.lockers[it] = append(lg.lockers[it], locker{txn: i})'. -/
theorem Core.newLock (h : Core w tv W S L who dom) {it i g cap H : Nat} {W1 : World} (hit : it < 4) (hH : W.heap.size = H)
    (ho : W1.ownsRow (w.heap.size + 2) 41 2 (.slice (some ⟨g, 0, none⟩) ((L it).length + 1) cap) ((L it).length + 1) (lcells (L it) ++ [.int .i64 (i : Int), .slice none 0 0])) (hg : W.grownBy W1 (S it).ownBlock) (hat : (S it).ownBlock = some g ∨ g = H) :
    ∃ W2, (Instr.mapUpdate 32 (.map (some w.heap.size)) (.int .i64 (it : Int)) (.slice (some ⟨g, 0, none⟩) ((L it).length + 1) cap)).run Ybad.prog W1 = .ok () W2 ∧
      Core w tv W2 (updN S it (.slice (some ⟨g, 0, none⟩) ((L it).length + 1) cap)) (updN L it (L it ++ [⟨i, .slice none 0 0, []⟩])) (updN who g (some (it, none))) (domPut dom it) ∧
      ∀ M dm gm, w.heap.size + 2 ≤ M → MapF W M dm gm → MapF W2 M dm gm := by
  have hs := h.size
  have own1 := h.own.newLock hH ho hg hat
  have hfar : ∀ b, b < w.heap.size + 2 → (S it).ownBlock ≠ some b := fun b hb e => by have := ((h.own.lock it).lt b e).1; omega
  have m1 := h.mp.grown hg (hfar _ (by omega))
  obtain ⟨W2, hr, m2, ht⟩ := m1.put Ybad.underlying32 Ybad.underlying3 (it : Int) (.slice (some ⟨g, 0, none⟩) ((L it).length + 1) cap)
  have hW1s : w.heap.size + 2 ≤ W1.heap.size := Nat.le_trans hs hg.size
  refine ⟨W2, hr, ⟨own1.map m1 ht, m2.congr fun k hk => ?_, fun k => ?_, fun it' => ?_, ?_, ?_⟩, fun M dm gm hM hm => ?_⟩
  · simp only [valPut]
    by_cases e : k = (it : Int)
    · subst e; simp [updN]
    · rw [if_neg e]
      have : k.toNat ≠ it := by
        rcases mem_domPut.1 hk with hk | hk
        · obtain ⟨it', _, rfl, _⟩ := (h.md k).1 hk
          simp; omega
        · exact (e hk).elim
      rw [updN_other _ _ this]
  · rw [mem_domPut, h.md]
    constructor
    · rintro (⟨it', h1, h2, h3⟩ | rfl)
      · refine ⟨it', h1, h2, ?_⟩
        by_cases e : it' = it
        · subst e; rw [updN_same]; simp
        · rw [updN_other _ _ e]; exact h3
      · exact ⟨it, hit, rfl, by rw [updN_same]; simp⟩
    · rintro ⟨it', h1, h2, h3⟩
      by_cases e : it' = it
      · subst e; exact .inr h2
      · rw [updN_other _ _ e] at h3; exact .inl ⟨it', h1, h2, h3⟩
  · intro hL
    by_cases e : it' = it
    · subst e; rw [updN_same] at hL; simp at hL
    · rw [updN_other _ _ e] at hL ⊢; exact h.sn it' hL
  · rw [ht.block _ (by omega) (by simp), hg.block _ (by omega) (Ne.symm (hfar _ (by omega)))]
    exact h.p0
  · refine Below.trans ?_ (ht.below (by omega) (by simp))
    exact h.below.grown hg (by omega) (fun k e => by have := ((h.own.lock it).lt k e).1; omega)
  · exact (hm.grown hg (hm.ne_own (h.own.lock it))).touch ht (by simp; omega)

/-- Behind 'l.holds = append(l.holds, hold{..})', l the item's j-th locker. -/
theorem Core.newHold (h : Core w tv W S L who dom) {it j gS n cS g cap H : Nat} {l : LK} {p : Nat × Int} {W1 : World} (hl : (L it)[j]? = some l) (hS : S it = .slice (some ⟨gS, 0, none⟩) n cS) (hH : W.heap.size = H)
    (ho : W1.ownsRow (w.heap.size + 2) 44 2 (.slice (some ⟨g, 0, none⟩) (l.hs.length + 1) cap) (l.hs.length + 1) (hcells l.hs ++ [.int .i64 (p.1 : Int), .int .u16 p.2])) (hg : W.grownBy W1 l.hv.ownBlock) (hat : l.hv.ownBlock = some g ∨ g = H) :
    W1.cell? ⟨gS, j * 2 + 1, none⟩ = some l.hv ∧ W1.frozen? ⟨gS, j * 2 + 1, none⟩ = false ∧
    Core w tv (W1.setCell ⟨gS, j * 2 + 1, none⟩ (.slice (some ⟨g, 0, none⟩) (l.hs.length + 1) cap)) S (updN L it ((L it).set j ⟨l.txn, .slice (some ⟨g, 0, none⟩) (l.hs.length + 1) cap, l.hs ++ [p]⟩)) (updN who g (some (it, some j))) dom ∧
      ∀ M dm gm, w.heap.size + 2 ≤ M → MapF W M dm gm → MapF (W1.setCell ⟨gS, j * 2 + 1, none⟩ (.slice (some ⟨g, 0, none⟩) (l.hs.length + 1) cap)) M dm gm := by
  have hs := h.size
  have own1 := h.own.newHold hl hS hH ho hg hat
  have hjlt : j < (L it).length := (List.getElem?_eq_some_iff.1 hl).1
  have hSb : (S it).ownBlock = some gS := by rw [hS]; rfl
  have gSlt := (h.own.lock it).lt gS hSb
  have hfar : ∀ b, b < w.heap.size + 2 → l.hv.ownBlock ≠ some b := fun b hb e => by have := ((h.own.hold it j l hl).lt b e).1; omega
  have hW1s : w.heap.size + 2 ≤ W1.heap.size := Nat.le_trans hs hg.size
  have hn : n = (L it).length := by
    rcases (h.own.lock it).2 with ⟨e, _⟩ | ⟨g', cp, cur, e, _⟩
    · rw [hS] at e; cases e
    · rw [hS] at e; simp at e; exact e.2.1
  have lk1 : W1.ownsRow (w.heap.size + 2) 41 2 (.slice (some ⟨gS, 0, none⟩) n cS) n (lcells (L it)) := by
    rw [← hS, hn]
    refine (h.own.lock it).kept hg (.inr fun e => ?_)
    have a1 := h.own.w1 it gS hSb
    rw [hSb] at e
    rw [h.own.w2 it j l gS hl e.symm] at a1
    cases a1
  refine ⟨?_, lk1.frozenAt _, ⟨own1, ?_, fun k => ?_, fun it' => ?_, ?_, ?_⟩, fun M dm gm hM hm => ?_⟩
  · rw [lk1.cellAt _ (by omega), (lcells_get (L it) j l hl).2]
  · refine (h.mp.grown hg (hfar _ (by omega))).of_block (Below.heap_setCell _ _ _ _ ?_)
    simp only []
    omega
  · rw [h.md]
    constructor
    · rintro ⟨it', h1, h2, h3⟩
      refine ⟨it', h1, h2, ?_⟩
      by_cases e : it' = it
      · subst e; rw [updN_same]; simpa using h3
      · rw [updN_other _ _ e]; exact h3
    · rintro ⟨it', h1, h2, h3⟩
      refine ⟨it', h1, h2, ?_⟩
      by_cases e : it' = it
      · subst e; rw [updN_same] at h3; simpa using h3
      · rw [updN_other _ _ e] at h3; exact h3
  · intro hL
    by_cases e : it' = it
    · subst e; rw [updN_same] at hL; exact h.sn it' (by simpa using hL)
    · rw [updN_other _ _ e] at hL; exact h.sn it' hL
  · rw [Below.heap_setCell _ _ _ _ (by simp only []; omega), hg.block _ (by omega) (Ne.symm (hfar _ (by omega)))]
    exact h.p0
  · refine Below.setCell (p := ⟨gS, j * 2 + 1, none⟩) ?_ (by simp only []; omega) _
    exact h.below.grown hg (by omega) (fun k e => by have := ((h.own.hold it j l hl).lt k e).1; omega)
  · refine (hm.grown hg (hm.ne_own (h.own.hold it j l hl))).of_block (Below.heap_setCell _ _ _ _ ?_)
    have := hm.ne_own (h.own.lock it)
    rw [hSb] at this
    simp only []
    intro e
    exact this (by rw [e])
end
end Go.Proofs.YbulkcgnkDoor
