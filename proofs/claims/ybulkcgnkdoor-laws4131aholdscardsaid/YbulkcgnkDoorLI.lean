import Derived.Test.YbulkcgnkDoorCore
namespace Go.Proofs.YbulkcgnkDoor
open Go.RowKit

/-- The transactions, as they lie in memory. -/
structure TX (w : World) (n : Nat) (a : Option Addr) (cnt : Nat → Nat) (T : Nat → Nat → Nat × Nat) : Prop where
  rows : ∀ i, i < n → ∃ X ra rc, a = some ⟨X, 0, none⟩ ∧ w.cell? ⟨X, i, none⟩ = some (.slice ra (cnt i) rc) ∧ ∀ q, q < cnt i → ∃ R t, ra = some ⟨R, 0, none⟩ ∧
    w.cell? ⟨R, q * 3, none⟩ = some (.int .i64 ((T i q).1 : Int)) ∧ w.cell? ⟨R, q * 3 + 1, none⟩ = some (.int .i64 t) ∧ w.cell? ⟨R, q * 3 + 2, none⟩ = some (.int .i64 ((T i q).2 : Int))
  kind : ∀ i q, i < n → q < cnt i → (T i q).1 < 14 ∧ (T i q).2 < 4
  few : n ≤ 4
  short : ∀ i, i < n → cnt i ≤ 1024

/-- One transaction is under way: q of its operations are done with. -/
structure LI (w : World) (tv : Value) (T : Nat → Nat → Nat × Nat) (cnt : Nat → Nat) (i Hd Mn q : Nat) (W : World) (S : Nat → Value) (L : Nat → List LK) (who : Nat → Option (Nat × Option Nat)) (dom hdom : List Int) (hg : Int → Value) (mdom : List Int) (mg : Int → Value) : Prop where
  core : Core w tv W S L who dom
  lk : ∀ it, (L it).map (fun l => (l.txn, l.hs)) = curL T cnt it i q
  hm : MapF W Hd hdom hg
  hv : ∀ it : Nat, it < 4 → (if (it : Int) ∈ hdom then hg it else .int .u16 0) = .int .u16 (runH (T i) it q).1
  mm : MapF W Mn mdom mg
  mi : ∀ it : Nat, it < 4 → ((it : Int) ∈ mdom ↔ (runH (T i) it q).2 ≠ [])
  mv : ∀ it : Nat, it < 4 → (it : Int) ∈ mdom → mg it = .int .i64 ((doneL T cnt it i).length : Int)
  bh : w.heap.size + 2 ≤ Hd
  bm : w.heap.size + 2 ≤ Mn
  ne : Hd ≠ Mn

/-- The same behind the lines that find, or lay, the transaction's locker for the item: it is the j-th. -/
structure LJ (w : World) (tv : Value) (T : Nat → Nat → Nat × Nat) (cnt : Nat → Nat) (i Hd Mn q it : Nat) (W : World) (S : Nat → Value) (L : Nat → List LK) (who : Nat → Option (Nat × Option Nat)) (dom hdom : List Int) (hg : Int → Value) (mdom : List Int) (mg : Int → Value) : Prop where
  core : Core w tv W S L who dom
  lk : ∀ it', it' ≠ it → (L it').map (fun l => (l.txn, l.hs)) = curL T cnt it' i q
  li : (L it).map (fun l => (l.txn, l.hs)) = doneL T cnt it i ++ [(i, (runH (T i) it q).2)]
  hm : MapF W Hd hdom hg
  mm : MapF W Mn mdom mg
  mi : ∀ it' : Nat, it' < 4 → ((it' : Int) ∈ mdom ↔ (it' = it ∨ (runH (T i) it' q).2 ≠ []))
  mv : ∀ it' : Nat, it' < 4 → (it' : Int) ∈ mdom → mg it' = .int .i64 ((doneL T cnt it' i).length : Int)
  bh : w.heap.size + 2 ≤ Hd
  bm : w.heap.size + 2 ≤ Mn
  ne : Hd ≠ Mn

section
variable {w : World} {tv : Value} {T : Nat → Nat → Nat × Nat} {cnt : Nat → Nat} {i Hd Mn q it : Nat} {W W' : World} {S : Nat → Value} {L : Nat → List LK} {who : Nat → Option (Nat × Option Nat)} {dom hdom : List Int} {hg : Int → Value} {mdom : List Int} {mg : Int → Value}

theorem LI.alloc (h : LI w tv T cnt i Hd Mn q W S L who dom hdom hg mdom mg) (o : Obj) : LI w tv T cnt i Hd Mn q (W.alloc o) S L who dom hdom hg mdom mg :=
  { h with core := h.core.alloc o, hm := h.hm.alloc o, mm := h.mm.alloc o }
theorem LI.drewN (h : LI w tv T cnt i Hd Mn q W S L who dom hdom hg mdom mg) (k : Nat) : LI w tv T cnt i Hd Mn q (W.drewN k) S L who dom hdom hg mdom mg :=
  { h with core := h.core.drewN k, hm := h.hm.drewN k, mm := h.mm.drewN k }
theorem LJ.alloc (h : LJ w tv T cnt i Hd Mn q it W S L who dom hdom hg mdom mg) (o : Obj) : LJ w tv T cnt i Hd Mn q it (W.alloc o) S L who dom hdom hg mdom mg :=
  { h with core := h.core.alloc o, hm := h.hm.alloc o, mm := h.mm.alloc o }
theorem LJ.drewN (h : LJ w tv T cnt i Hd Mn q it W S L who dom hdom hg mdom mg) (k : Nat) : LJ w tv T cnt i Hd Mn q it (W.drewN k) S L who dom hdom hg mdom mg :=
  { h with core := h.core.drewN k, hm := h.hm.drewN k, mm := h.mm.drewN k }

/-- An operation that neither locks nor unlocks. -/
theorem LI.miss (h : LI w tv T cnt i Hd Mn q W S L who dom hdom hg mdom mg) (hr : rel (T i q).1 = false) : LI w tv T cnt i Hd Mn (q + 1) W S L who dom hdom hg mdom mg :=
  { h with lk := fun it => by rw [curL_miss (.inl hr)]; exact h.lk it, hv := fun it hit => by rw [runH_miss (.inl hr)]; exact h.hv it hit, mi := fun it hit => by rw [runH_miss (.inl hr)]; exact h.mi it hit }

/-- 'mine' knows the item: nothing is laid. -/
theorem LI.known (h : LI w tv T cnt i Hd Mn q W S L who dom hdom hg mdom mg) (hit : it < 4) (hm : (it : Int) ∈ mdom) : LJ w tv T cnt i Hd Mn q it W S L who dom hdom hg mdom mg := by
  have hne := (h.mi it hit).1 hm
  refine ⟨h.core, fun it' _ => h.lk it', ?_, h.hm, h.mm, fun it' h' => ?_, h.mv, h.bh, h.bm, h.ne⟩
  · rw [h.lk, curL, if_neg hne]
  · rw [h.mi it' h']
    constructor
    · exact .inr
    · rintro (rfl | h2)
      · exact hne
      · exact h2

/-- .. it does not: 'mine[it] = len(lg.lockers[it])', then the locker. -/
theorem LI.fresh (h : LI w tv T cnt i Hd Mn q W S L who dom hdom hg mdom mg) (hit : it < 4) (hm : (it : Int) ∉ mdom) :
    L it = L it ∧ (L it).length = (doneL T cnt it i).length ∧
    ∃ W', (Instr.mapUpdate 47 (.map (some Mn)) (.int .i64 (it : Int)) (.int .i64 ((doneL T cnt it i).length : Int))).run Ybad.prog W = .ok () W' ∧ Core w tv W' S L who dom ∧ MapF W' Hd hdom hg ∧
      MapF W' Mn (domPut mdom it) (valPut mg it (.int .i64 ((doneL T cnt it i).length : Int))) := by
  have hnil : (runH (T i) it q).2 = [] := by
    cases hq : (runH (T i) it q).2 with
    | nil => rfl
    | cons x l => exact (hm ((h.mi it hit).2 (by rw [hq]; simp))).elim
  have hl := congrArg List.length (h.lk it)
  rw [curL, if_pos hnil] at hl
  obtain ⟨W', hr, hm', ht⟩ := h.mm.put Ybad.underlying47 Ybad.underlying3 (it : Int) (.int .i64 ((doneL T cnt it i).length : Int))
  exact ⟨rfl, by simpa using hl, W', hr, h.core.other h.mm h.bm ht, h.hm.touch ht (by simp [h.ne]), hm'⟩

theorem LI.laid (h : LI w tv T cnt i Hd Mn q W S L who dom hdom hg mdom mg) (hit : it < 4) (hm : (it : Int) ∉ mdom) {v : Value} {who' : Nat → Option (Nat × Option Nat)} {dom' : List Int}
    (hc : Core w tv W' (updN S it v) (updN L it (L it ++ [⟨i, .slice none 0 0, []⟩])) who' dom') (h1 : MapF W' Hd hdom hg) (h2 : MapF W' Mn (domPut mdom it) (valPut mg it (.int .i64 ((doneL T cnt it i).length : Int)))) :
    LJ w tv T cnt i Hd Mn q it W' (updN S it v) (updN L it (L it ++ [⟨i, .slice none 0 0, []⟩])) who' dom' hdom hg (domPut mdom it) (valPut mg it (.int .i64 ((doneL T cnt it i).length : Int))) := by
  have hnil : (runH (T i) it q).2 = [] := by
    cases hq : (runH (T i) it q).2 with
    | nil => rfl
    | cons x l => exact (hm ((h.mi it hit).2 (by rw [hq]; simp))).elim
  refine ⟨hc, fun it' hne => ?_, ?_, h1, h2, fun it' h' => ?_, fun it' h' hmem => ?_, h.bh, h.bm, h.ne⟩
  · rw [updN_other _ _ hne]; exact h.lk it'
  · rw [updN_same, List.map_append, h.lk, curL, if_pos hnil, hnil]; rfl
  · rw [mem_domPut, h.mi it' h']
    constructor
    · rintro (h3 | h3)
      · exact .inr h3
      · exact .inl (by omega)
    · rintro (h3 | h3)
      · exact .inr (by omega)
      · exact .inl h3
  · by_cases e : it' = it
    · subst e; simp [valPut]
    · have : (it' : Int) ≠ (it : Int) := by omega
      simp only [valPut, if_neg this]
      rcases mem_domPut.1 hmem with h4 | h4
      · exact h.mv it' h' h4
      · exact (this h4).elim

/-- The locker's own place. -/
theorem LJ.at_ (h : LJ w tv T cnt i Hd Mn q it W S L who dom hdom hg mdom mg) : ∃ gS cS l, S it = .slice (some ⟨gS, 0, none⟩) ((doneL T cnt it i).length + 1) cS ∧ (L it)[(doneL T cnt it i).length]? = some l ∧ l.txn = i ∧ l.hs = (runH (T i) it q).2 ∧
    W.cell? ⟨gS, (doneL T cnt it i).length * 2 + 1, none⟩ = some l.hv := by
  have hl := congrArg List.length h.li
  simp at hl
  have hlk := h.core.own.lock it
  rw [hl] at hlk
  obtain ⟨gS, cS, hS, _, _⟩ := hlk.form (by omega)
  obtain ⟨l, hg⟩ : ∃ l, (L it)[(doneL T cnt it i).length]? = some l := ⟨_, List.getElem?_eq_getElem (by omega)⟩
  have e := congrArg (fun x => x[(doneL T cnt it i).length]?) h.li
  simp [hg] at e
  rw [hS] at hlk
  exact ⟨gS, cS, l, hS, hg, e.1, e.2, by rw [hlk.cellAt _ (by omega), (lcells_get _ _ _ hg).2]⟩

/-- The round's end. -/
theorem LJ.end_ (h : LJ w tv T cnt i Hd Mn q it W S L who dom hdom hg mdom mg) (hit : it < 4) (hr : rel (T i q).1 = true) (hi : (T i q).2 = it) {hdom' : List Int} {hg' : Int → Value} {l : LK} {v : Value} {who' : Nat → Option (Nat × Option Nat)} {dom' : List Int}
    (hl : (L it)[(doneL T cnt it i).length]? = some l) (ht : l.txn = i) (hhs : l.hs = (runH (T i) it q).2)
    (hc : Core w tv W' S (updN L it ((L it).set (doneL T cnt it i).length ⟨l.txn, v, l.hs ++ [(q + 1, heldAfter (runH (T i) it q).1 (T i q).1)]⟩)) who' dom')
    (h1 : MapF W' Hd hdom' hg') (h2 : MapF W' Mn mdom mg) (hv : ∀ it' : Nat, it' < 4 → (if (it' : Int) ∈ hdom' then hg' it' else .int .u16 0) = .int .u16 (runH (T i) it' (q + 1)).1) :
    LI w tv T cnt i Hd Mn (q + 1) W' S (updN L it ((L it).set (doneL T cnt it i).length ⟨l.txn, v, l.hs ++ [(q + 1, heldAfter (runH (T i) it q).1 (T i q).1)]⟩)) who' dom' hdom' hg' mdom mg := by
  refine ⟨hc, fun it' => ?_, h1, hv, h2, fun it' h' => ?_, h.mv, h.bh, h.bm, h.ne⟩
  · by_cases e : it' = it
    · subst e
      rw [updN_same, List.map_set, h.li, curL_hit hr hi, ht, hhs]
      rw [List.set_append_right _ _ (by omega)]
      simp
    · rw [updN_other _ _ e, curL_miss (.inr (by rw [hi]; exact Ne.symm e))]
      exact h.lk it' e
  · rw [h.mi it' h']
    by_cases e : it' = it
    · subst e
      rw [runH_hit hr hi]
      simp
    · rw [runH_miss (.inr (by rw [hi]; exact Ne.symm e))]
      simp [e]
end
end Go.Proofs.YbulkcgnkDoor
