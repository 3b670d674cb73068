import Derived.Test.YbulkcgnkDoorModes
import Derived.Test.YbulkcgnkDoorMaps
import Derived.Deep.AppendLies
namespace Go.Proofs.YbulkcgnkDoor
open Go.RowKit

/-! ### The plain side -/
/-- Does an operation of kind k lock or unlock? -/
def rel (k : Nat) : Bool := decide (mode k ≠ 0) || decide (k = 10)
/-- What is held behind it. -/
def heldAfter (h : Int) (k : Nat) : Int := if mode k = 0 then 0 else orv h (mode k)

/-- Of one transaction's first q operations: what is held on the item, and the holds that were laid down. An operation is (kind, item). -/
def runH (f : Nat → Nat × Nat) (it : Nat) : Nat → Int × List (Nat × Int)
  | 0 => (0, [])
  | q + 1 => if rel (f q).1 = true ∧ (f q).2 = it then (heldAfter (runH f it q).1 (f q).1, (runH f it q).2 ++ [(q + 1, heldAfter (runH f it q).1 (f q).1)]) else runH f it q

theorem runH_hit {f : Nat → Nat × Nat} {it q : Nat} (h1 : rel (f q).1 = true) (h2 : (f q).2 = it) :
    runH f it (q + 1) = (heldAfter (runH f it q).1 (f q).1, (runH f it q).2 ++ [(q + 1, heldAfter (runH f it q).1 (f q).1)]) := by
  simp only [runH]; rw [if_pos ⟨h1, h2⟩]
theorem runH_miss {f : Nat → Nat × Nat} {it q : Nat} (h : rel (f q).1 = false ∨ (f q).2 ≠ it) : runH f it (q + 1) = runH f it q := by
  simp only [runH]
  rw [if_neg]
  rintro ⟨h1, h2⟩
  rcases h with h | h
  · rw [h1] at h; cases h
  · exact h h2
theorem runH_nil (f : Nat → Nat × Nat) (it : Nat) : ∀ q, (runH f it q).2 = [] → (runH f it q).1 = 0
  | 0, _ => rfl
  | q + 1, h => by
    by_cases hc : rel (f q).1 = true ∧ (f q).2 = it
    · rw [runH_hit hc.1 hc.2] at h
      simp at h
    · have e : runH f it (q + 1) = runH f it q := by simp only [runH]; rw [if_neg hc]
      rw [e] at h ⊢
      exact runH_nil f it q h
theorem runH_len (f : Nat → Nat × Nat) (it : Nat) : ∀ q, (runH f it q).2.length ≤ q
  | 0 => by simp [runH]
  | q + 1 => by
    have := runH_len f it q
    by_cases hc : rel (f q).1 = true ∧ (f q).2 = it
    · rw [runH_hit hc.1 hc.2]; simp; omega
    · have e : runH f it (q + 1) = runH f it q := by simp only [runH]; rw [if_neg hc]
      rw [e]; omega

/-- The item's lockers, of the first i transactions. -/
def doneL (T : Nat → Nat → Nat × Nat) (cnt : Nat → Nat) (it : Nat) : Nat → List (Nat × List (Nat × Int))
  | 0 => []
  | i + 1 => if (runH (T i) it (cnt i)).2 = [] then doneL T cnt it i else doneL T cnt it i ++ [(i, (runH (T i) it (cnt i)).2)]
/-- .. and of the first q operations of the next. -/
def curL (T : Nat → Nat → Nat × Nat) (cnt : Nat → Nat) (it i q : Nat) : List (Nat × List (Nat × Int)) :=
  if (runH (T i) it q).2 = [] then doneL T cnt it i else doneL T cnt it i ++ [(i, (runH (T i) it q).2)]
theorem curL_zero (T : Nat → Nat → Nat × Nat) (cnt : Nat → Nat) (it i : Nat) : curL T cnt it i 0 = doneL T cnt it i := by simp [curL, runH]
theorem curL_cnt (T : Nat → Nat → Nat × Nat) (cnt : Nat → Nat) (it i : Nat) : curL T cnt it i (cnt i) = doneL T cnt it (i + 1) := rfl
theorem doneL_len (T : Nat → Nat → Nat × Nat) (cnt : Nat → Nat) (it : Nat) : ∀ i, (doneL T cnt it i).length ≤ i
  | 0 => by simp [doneL]
  | i + 1 => by
    have := doneL_len T cnt it i
    simp only [doneL]
    split
    · omega
    · simp; omega
theorem curL_miss {T : Nat → Nat → Nat × Nat} {cnt : Nat → Nat} {it i q : Nat} (h : rel (T i q).1 = false ∨ (T i q).2 ≠ it) : curL T cnt it i (q + 1) = curL T cnt it i q := by
  unfold curL; rw [runH_miss h]
theorem curL_hit {T : Nat → Nat → Nat × Nat} {cnt : Nat → Nat} {it i q : Nat} (h1 : rel (T i q).1 = true) (h2 : (T i q).2 = it) :
    curL T cnt it i (q + 1) = doneL T cnt it i ++ [(i, (runH (T i) it q).2 ++ [(q + 1, heldAfter (runH (T i) it q).1 (T i q).1)])] := by
  unfold curL; rw [runH_hit h1 h2]; simp

/-! ### The lockers in memory -/
structure LK where
  txn : Nat
  hv : Value
  hs : List (Nat × Int)

def lcells (ls : List LK) : List Value := ls.flatMap fun l => [.int .i64 (l.txn : Int), l.hv]
def hcells (hs : List (Nat × Int)) : List Value := hs.flatMap fun p => [.int .i64 (p.1 : Int), .int .u16 p.2]

theorem lcells_snoc (ls : List LK) (l : LK) : lcells (ls ++ [l]) = lcells ls ++ [.int .i64 (l.txn : Int), l.hv] := by simp [lcells]
theorem hcells_snoc (hs : List (Nat × Int)) (p : Nat × Int) : hcells (hs ++ [p]) = hcells hs ++ [.int .i64 (p.1 : Int), .int .u16 p.2] := by simp [hcells]
theorem lcells_len (ls : List LK) : (lcells ls).length = ls.length * 2 := by
  induction ls with
  | nil => rfl
  | cons l ls ih => simp [lcells] at ih ⊢; omega
theorem hcells_len (hs : List (Nat × Int)) : (hcells hs).length = hs.length * 2 := by
  induction hs with
  | nil => rfl
  | cons l hs ih => simp [hcells] at ih ⊢; omega
theorem lcells_cons (l : LK) (ls : List LK) : lcells (l :: ls) = .int .i64 (l.txn : Int) :: l.hv :: lcells ls := by simp [lcells]
theorem hcells_cons (p : Nat × Int) (hs : List (Nat × Int)) : hcells (p :: hs) = .int .i64 (p.1 : Int) :: .int .u16 p.2 :: hcells hs := by simp [hcells]
theorem lcells_get : ∀ (ls : List LK) (j : Nat) (l : LK), ls[j]? = some l → (lcells ls)[j * 2]? = some (.int .i64 (l.txn : Int)) ∧ (lcells ls)[j * 2 + 1]? = some l.hv
  | [], j, l, h => by simp at h
  | x :: ls, 0, l, h => by simp at h; subst h; rw [lcells_cons]; simp
  | x :: ls, j + 1, l, h => by
    have := lcells_get ls j l (by simpa using h)
    rw [lcells_cons, show (j + 1) * 2 = j * 2 + 1 + 1 from by omega]
    simpa using this
theorem hcells_get : ∀ (hs : List (Nat × Int)) (j : Nat) (p : Nat × Int), hs[j]? = some p → (hcells hs)[j * 2]? = some (.int .i64 (p.1 : Int)) ∧ (hcells hs)[j * 2 + 1]? = some (.int .u16 p.2)
  | [], j, l, h => by simp at h
  | x :: hs, 0, l, h => by simp at h; subst h; rw [hcells_cons]; simp
  | x :: hs, j + 1, l, h => by
    have := hcells_get hs j l (by simpa using h)
    rw [hcells_cons, show (j + 1) * 2 = j * 2 + 1 + 1 from by omega]
    simpa using this
theorem lcells_set : ∀ (ls : List LK) (j : Nat) (l l' : LK), ls[j]? = some l → l'.txn = l.txn → lcells (ls.set j l') = (lcells ls).set (j * 2 + 1) l'.hv
  | [], j, l, l', h, _ => by simp at h
  | x :: ls, 0, l, l', h, ht => by simp at h; subst h; simp [lcells_cons, ht]
  | x :: ls, j + 1, l, l', h, ht => by
    have := lcells_set ls j l l' (by simpa using h) ht
    rw [List.set_cons_succ, lcells_cons, lcells_cons, this, show (j + 1) * 2 + 1 = j * 2 + 1 + 1 + 1 from by omega]
    simp

/-- Who owns which block: (item, none): the item's lockers; (item, some j): the holds of its j-th. -/
structure Own (B : Nat) (W : World) (S : Nat → Value) (L : Nat → List LK) (who : Nat → Option (Nat × Option Nat)) : Prop where
  lock : ∀ it, W.ownsRow B 41 2 (S it) (L it).length (lcells (L it))
  hold : ∀ it (j : Nat) (l : LK), (L it)[j]? = some l → W.ownsRow B 44 2 l.hv l.hs.length (hcells l.hs)
  w1 : ∀ it g, (S it).ownBlock = some g → who g = some (it, none)
  w2 : ∀ it (j : Nat) (l : LK) g, (L it)[j]? = some l → l.hv.ownBlock = some g → who g = some (it, some j)

def updN {α : Type} (f : Nat → α) (k : Nat) (v : α) : Nat → α := fun x => if x = k then v else f x
theorem updN_same {α : Type} (f : Nat → α) (k : Nat) (v : α) : updN f k v k = v := by simp [updN]
theorem updN_other {α : Type} (f : Nat → α) {k x : Nat} (v : α) (h : x ≠ k) : updN f k v x = f x := by simp [updN, h]

section
variable {B : Nat} {W W' : World} {S : Nat → Value} {L : Nat → List LK} {who : Nat → Option (Nat × Option Nat)}

theorem owns_same {e n : Nat} {v : Value} {xs : List Value} (h : W.ownsRow B e 2 v n xs) (hs : ∀ g c fr, v.ownBlock = some g → W.heap[g]? = some (.cells c e fr) → W'.heap[g]? = W.heap[g]?) : W'.ownsRow B e 2 v n xs := by
  refine ⟨h.1, ?_⟩
  rcases h.2 with hn | ⟨g, cp, cur, rfl, hb, hg, rest⟩
  · exact .inl hn
  · exact .inr ⟨g, cp, cur, rfl, hb, (hs g cur (0, 0) rfl hg).trans hg, rest⟩

/-- It stands where no block of cells of the two types, from B on, has turned. -/
theorem Own.frame (h : Own B W S L who) (hf : ∀ g c e fr, B ≤ g → W.heap[g]? = some (.cells c e fr) → (e = 41 ∨ e = 44) → W'.heap[g]? = W.heap[g]?) : Own B W' S L who :=
  ⟨fun it => owns_same (h.lock it) fun g c fr e hg => hf g c 41 fr ((h.lock it).lt g e).1 hg (.inl rfl),
   fun it j l hl => owns_same (h.hold it j l hl) fun g c fr e hg => hf g c 44 fr ((h.hold it j l hl).lt g e).1 hg (.inr rfl), h.w1, h.w2⟩
theorem Own.alloc (h : Own B W S L who) (o : Obj) : Own B (W.alloc o) S L who :=
  h.frame fun _ _ _ _ _ hg _ => Below.heap_alloc _ _ _ (Array.getElem?_eq_some_iff.1 hg).1
theorem Own.drewN (h : Own B W S L who) (n : Nat) : Own B (W.drewN n) S L who := h.frame fun _ _ _ _ _ _ _ => rfl
theorem Own.map {M : Nat} {dom : List Int} {g : Int → Value} (h : Own B W S L who) (hm : MapF W M dom g) (ht : Touch [M] W W') : Own B W' S L who := by
  refine h.frame fun b c e fr _ hg _ => ht.block b (Array.getElem?_eq_some_iff.1 hg).1 ?_
  obtain ⟨es, cl, hb, _⟩ := hm
  simp
  rintro rfl
  rw [hb] at hg
  cases hg

/-- A locker more, for the item. -/
theorem Own.newLock (h : Own B W S L who) {it i g cap H : Nat} (hH : W.heap.size = H)
    (ho : W'.ownsRow B 41 2 (.slice (some ⟨g, 0, none⟩) ((L it).length + 1) cap) ((L it).length + 1) (lcells (L it) ++ [.int .i64 (i : Int), .slice none 0 0])) (hg : W.grownBy W' (S it).ownBlock) (hat : (S it).ownBlock = some g ∨ g = H) :
    Own B W' (updN S it (.slice (some ⟨g, 0, none⟩) ((L it).length + 1) cap)) (updN L it (L it ++ [⟨i, .slice none 0 0, []⟩])) (updN who g (some (it, none))) := by
  have getL : ∀ (j : Nat) (l : LK), (L it ++ [⟨i, .slice none 0 0, []⟩])[j]? = some l → (L it)[j]? = some l ∨ l = ⟨i, .slice none 0 0, []⟩ := by
    intro j l hl
    by_cases hj : j < (L it).length
    · rw [List.getElem?_append_left hj] at hl; exact .inl hl
    · rw [List.getElem?_append_right (by omega)] at hl
      rw [List.getElem?_singleton] at hl
      split at hl
      · simp at hl; exact .inr hl.symm
      · cases hl
  have keepH : ∀ it' (j : Nat) (l : LK), (L it')[j]? = some l → W'.ownsRow B 44 2 l.hv l.hs.length (hcells l.hs) := by
    intro it' j l hl
    refine (h.hold it' j l hl).kept hg ?_
    cases hv : l.hv.ownBlock with
    | none => exact .inl rfl
    | some b =>
      refine .inr fun e => ?_
      have a1 := h.w2 it' j l b hl hv
      have a2 := h.w1 it b e.symm
      rw [a1] at a2
      cases a2
  refine ⟨fun it' => ?_, fun it' j l hl => ?_, fun it' b hb => ?_, fun it' j l b hl hb => ?_⟩
  · by_cases e : it' = it
    · subst e
      rw [updN_same, updN_same, lcells_snoc]
      simpa using ho
    · rw [updN_other _ _ e, updN_other _ _ e]
      refine (h.lock it').kept hg ?_
      cases hv : (S it').ownBlock with
      | none => exact .inl rfl
      | some b =>
        refine .inr fun e' => ?_
        have a1 := h.w1 it' b hv
        have a2 := h.w1 it b e'.symm
        rw [a1] at a2
        simp at a2
        exact e a2
  · by_cases e : it' = it
    · subst e
      rw [updN_same] at hl
      rcases getL j l hl with hl | rfl
      · exact keepH it' j l hl
      · exact World.ownsRow_nil _ _ _ _
    · rw [updN_other _ _ e] at hl
      exact keepH it' j l hl
  · by_cases e : it' = it
    · subst e
      rw [updN_same] at hb
      simp [Value.ownBlock] at hb
      subst hb
      rw [updN_same]
    · rw [updN_other _ _ e] at hb
      have hw := h.w1 it' b hb
      have hlt := ((h.lock it').lt b hb).2
      have hne : b ≠ g := by
        rintro rfl
        rcases hat with hat | hat
        · rw [h.w1 it b hat] at hw; simp at hw; exact e hw.symm
        · omega
      rw [updN_other _ _ hne]; exact hw
  · have old : ∀ it', (L it')[j]? = some l → updN who g (some (it, none)) b = some (it', some j) := by
      intro it' hl
      have hw := h.w2 it' j l b hl hb
      have hlt := ((h.hold it' j l hl).lt b hb).2
      have hne : b ≠ g := by
        rintro rfl
        rcases hat with hat | hat
        · rw [h.w1 it b hat] at hw; cases hw
        · omega
      rw [updN_other _ _ hne]; exact hw
    by_cases e : it' = it
    · subst e
      rw [updN_same] at hl
      rcases getL j l hl with hl | rfl
      · exact old _ hl
      · simp [Value.ownBlock] at hb
    · rw [updN_other _ _ e] at hl
      exact old _ hl

/-- A hold more, for the item's j-th locker; behind it the locker's cell is written. -/
theorem Own.newHold (h : Own B W S L who) {it j gS n cS g cap H : Nat} {l : LK} {p : Nat × Int} (hl : (L it)[j]? = some l) (hS : S it = .slice (some ⟨gS, 0, none⟩) n cS) (hH : W.heap.size = H)
    (ho : W'.ownsRow B 44 2 (.slice (some ⟨g, 0, none⟩) (l.hs.length + 1) cap) (l.hs.length + 1) (hcells l.hs ++ [.int .i64 (p.1 : Int), .int .u16 p.2])) (hg : W.grownBy W' l.hv.ownBlock) (hat : l.hv.ownBlock = some g ∨ g = H) :
    Own B (W'.setCell ⟨gS, j * 2 + 1, none⟩ (.slice (some ⟨g, 0, none⟩) (l.hs.length + 1) cap)) S (updN L it ((L it).set j ⟨l.txn, .slice (some ⟨g, 0, none⟩) (l.hs.length + 1) cap, l.hs ++ [p]⟩)) (updN who g (some (it, some j))) := by
  have hjlt : j < (L it).length := (List.getElem?_eq_some_iff.1 hl).1
  have hn : n = (L it).length := by
    rcases (h.lock it).2 with ⟨e, _⟩ | ⟨g', cp, cur, e, _⟩
    · rw [hS] at e; cases e
    · rw [hS] at e; simp at e; exact e.2.1
  have hSb : (S it).ownBlock = some gS := by rw [hS]; rfl
  have gSlt := ((h.lock it).lt gS hSb).2
  have hgS : g ≠ gS := by
    rintro rfl
    have a1 := h.w1 it g hSb
    rcases hat with hat | hat
    · rw [h.w2 it j l g hl hat] at a1; cases a1
    · omega
  -- the lockers' rows behind the append
  have keepL : ∀ it', W'.ownsRow B 41 2 (S it') (L it').length (lcells (L it')) := by
    intro it'
    refine (h.lock it').kept hg ?_
    cases hv : (S it').ownBlock with
    | none => exact .inl rfl
    | some b =>
      refine .inr fun e => ?_
      have a1 := h.w1 it' b hv
      rw [h.w2 it j l b hl e.symm] at a1
      cases a1
  have keepH : ∀ it' (j' : Nat) (l' : LK), (L it')[j']? = some l' → (it' ≠ it ∨ j' ≠ j) → W'.ownsRow B 44 2 l'.hv l'.hs.length (hcells l'.hs) := by
    intro it' j' l' hl' hne
    refine (h.hold it' j' l' hl').kept hg ?_
    cases hv : l'.hv.ownBlock with
    | none => exact .inl rfl
    | some b =>
      refine .inr fun e => ?_
      have a1 := h.w2 it' j' l' b hl' hv
      rw [h.w2 it j l b hl e.symm] at a1
      simp at a1
      rcases hne with hne | hne
      · exact hne a1.1.symm
      · exact hne a1.2.symm
  have getL : ∀ (j' : Nat) (l' : LK), ((L it).set j ⟨l.txn, .slice (some ⟨g, 0, none⟩) (l.hs.length + 1) cap, l.hs ++ [p]⟩)[j']? = some l' →
      (j' = j ∧ l' = ⟨l.txn, .slice (some ⟨g, 0, none⟩) (l.hs.length + 1) cap, l.hs ++ [p]⟩) ∨ (j' ≠ j ∧ (L it)[j']? = some l') := by
    intro j' l' hl'
    by_cases e : j' = j
    · subst e
      rw [List.getElem?_set_self hjlt] at hl'
      simp at hl'
      exact .inl ⟨rfl, hl'.symm⟩
    · rw [List.getElem?_set_ne (Ne.symm e)] at hl'
      exact .inr ⟨e, hl'⟩
  -- a holds' row is not the lockers' block
  have farH : ∀ it' (j' : Nat) (l' : LK), (L it')[j']? = some l' → l'.hv.ownBlock ≠ some gS := by
    intro it' j' l' hl' e
    have a1 := h.w2 it' j' l' gS hl' e
    rw [h.w1 it gS hSb] at a1
    cases a1
  refine ⟨fun it' => ?_, fun it' j' l' hl' => ?_, fun it' b hb => ?_, fun it' j' l' b hl' hb => ?_⟩
  · by_cases e : it' = it
    · subst e
      rw [updN_same, lcells_set (L it') j l ⟨l.txn, .slice (some ⟨g, 0, none⟩) (l.hs.length + 1) cap, l.hs ++ [p]⟩ hl rfl, List.length_set]
      have k := keepL it'
      rw [hS, ← hn] at k ⊢
      have := (k.stored (j * 2 + 1) (.slice (some ⟨g, 0, none⟩) (l.hs.length + 1) cap)).1
      simpa [hn] using this
    · rw [updN_other _ _ e]
      refine ownsRow_setCell_other (keepL it') (fun e' => ?_) _
      have a1 := h.w1 it' gS e'
      rw [h.w1 it gS hSb] at a1
      simp at a1
      exact e a1.symm
  · by_cases e : it' = it
    · subst e
      rw [updN_same] at hl'
      rcases getL j' l' hl' with ⟨rfl, rfl⟩ | ⟨hne, hl'⟩
      · refine ownsRow_setCell_other ?_ (by simp [Value.ownBlock]; exact hgS) _
        rw [hcells_snoc]
        simpa using ho
      · exact ownsRow_setCell_other (keepH _ _ _ hl' (.inr hne)) (farH _ _ _ hl') _
    · rw [updN_other _ _ e] at hl'
      exact ownsRow_setCell_other (keepH _ _ _ hl' (.inl e)) (farH _ _ _ hl') _
  · have hw := h.w1 it' b hb
    have hlt := ((h.lock it').lt b hb).2
    have hne : b ≠ g := by
      rintro rfl
      rcases hat with hat | hat
      · rw [h.w2 it j l b hl hat] at hw; cases hw
      · omega
    rw [updN_other _ _ hne]; exact hw
  · have old : (L it')[j']? = some l' → (it' ≠ it ∨ j' ≠ j) → updN who g (some (it, some j)) b = some (it', some j') := by
      intro hl' hne'
      have hw := h.w2 it' j' l' b hl' hb
      have hlt := ((h.hold it' j' l' hl').lt b hb).2
      have hne : b ≠ g := by
        rintro rfl
        rcases hat with hat | hat
        · rw [h.w2 it j l b hl hat] at hw
          simp at hw
          rcases hne' with hne' | hne'
          · exact hne' hw.1.symm
          · exact hne' hw.2.symm
        · omega
      rw [updN_other _ _ hne]; exact hw
    by_cases e : it' = it
    · subst e
      rw [updN_same] at hl'
      rcases getL j' l' hl' with ⟨rfl, rfl⟩ | ⟨hne, hl'⟩
      · simp [Value.ownBlock] at hb
        subst hb
        rw [updN_same]
      · exact old hl' (.inr hne)
    · rw [updN_other _ _ e] at hl'
      exact old hl' (.inl e)
end
end Go.Proofs.YbulkcgnkDoor
