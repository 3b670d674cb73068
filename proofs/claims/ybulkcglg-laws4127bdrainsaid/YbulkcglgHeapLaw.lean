namespace Go.Proofs.Ybulkcglg.HeapLaw

/-- By value, and by input among equal values. -/
def Le (p q : Int × Int) : Prop := p.1 < q.1 ∨ (p.1 = q.1 ∧ p.2 ≤ q.2)
def lessB (p q : Int × Int) : Bool := decide (p.1 < q.1 ∨ (p.1 = q.1 ∧ p.2 < q.2))

theorem Le.refl (p : Int × Int) : Le p p := .inr ⟨rfl, Int.le_refl _⟩
theorem Le.trans {p q r : Int × Int} (h : Le p q) (k : Le q r) : Le p r := by unfold Le at *; omega
theorem Le.antisymm {p q : Int × Int} (h : Le p q) (k : Le q p) : p = q := by
  unfold Le at *
  exact Prod.ext (by omega) (by omega)
theorem le_of_less {p q : Int × Int} (h : lessB p q = true) : Le p q := by
  simp only [lessB, decide_eq_true_eq] at h
  unfold Le
  omega
theorem le_of_not {p q : Int × Int} (h : lessB p q = false) : Le q p := by
  simp only [lessB, decide_eq_false_iff_not] at h
  unfold Le
  omega

/-- Positions a and b exchanged. -/
def swp (f : Nat → Int × Int) (a b : Nat) : Nat → Int × Int := fun i => if i = a then f b else if i = b then f a else f i
theorem swp_left (f : Nat → Int × Int) (a b : Nat) : swp f a b a = f b := by simp [swp]
theorem swp_right (f : Nat → Int × Int) (a b : Nat) : swp f a b b = f a := by
  unfold swp
  by_cases h : b = a
  · subst h; simp
  · simp [h]
theorem swp_other (f : Nat → Int × Int) {a b i : Nat} (h1 : i ≠ a) (h2 : i ≠ b) : swp f a b i = f i := by simp [swp, h1, h2]

def lst (n : Nat) (f : Nat → Int × Int) : List (Int × Int) := (List.range n).map f
theorem lst_length (n : Nat) (f : Nat → Int × Int) : (lst n f).length = n := by simp [lst]
theorem lst_congr {n : Nat} {f g : Nat → Int × Int} (h : ∀ i, i < n → f i = g i) : lst n f = lst n g :=
  List.map_congr_left fun i hi => h i (List.mem_range.1 hi)
theorem lst_get {n i : Nat} {f : Nat → Int × Int} (h : i < n) : (lst n f)[i]? = some (f i) := by simp [lst, h]
theorem mem_lst {n : Nat} {f : Nat → Int × Int} {p : Int × Int} : p ∈ lst n f ↔ ∃ i, i < n ∧ f i = p := by simp [lst]
theorem lst_succ (n : Nat) (f : Nat → Int × Int) : lst (n + 1) f = lst n f ++ [f n] := by simp [lst, List.range_succ]

/-- The exchange of two numbers. -/
def swN (a b i : Nat) : Nat := if i = a then b else if i = b then a else i
theorem swN_lt {a b n i : Nat} (ha : a < n) (hb : b < n) (hi : i < n) : swN a b i < n := by unfold swN; split <;> (try split) <;> omega
theorem swN_swN (a b i : Nat) : swN a b (swN a b i) = i := by
  unfold swN
  by_cases h1 : i = a
  · subst h1
    by_cases h3 : b = i
    · simp [h3]
    · simp [h3]
  · by_cases h2 : i = b
    · subst h2
      simp [h1]
    · simp [h1, h2]
theorem swN_inj {a b i j : Nat} (h : swN a b i = swN a b j) : i = j := by
  have := congrArg (swN a b) h
  rwa [swN_swN, swN_swN] at this
theorem nodup_map_inj {l : List Nat} {g : Nat → Nat} (hg : ∀ i j, g i = g j → i = j) (h : l.Nodup) : (l.map g).Nodup := by
  induction l with
  | nil => simp
  | cons x l ih =>
    rw [List.nodup_cons] at h
    rw [List.map_cons, List.nodup_cons]
    refine ⟨fun hm => ?_, ih h.2⟩
    obtain ⟨y, hy, e⟩ := List.mem_map.1 hm
    exact h.1 (hg _ _ e ▸ hy)

theorem lst_swp {n a b : Nat} (f : Nat → Int × Int) (ha : a < n) (hb : b < n) : (lst n (swp f a b)).Perm (lst n f) := by
  have e : lst n (swp f a b) = ((List.range n).map (swN a b)).map f := by
    unfold lst
    rw [List.map_map]
    refine List.map_congr_left fun i _ => ?_
    simp only [Function.comp, swp, swN]
    split
    · rfl
    · split <;> rfl
  rw [e]
  refine List.Perm.map f ?_
  rw [List.perm_ext_iff_of_nodup (nodup_map_inj (fun i j => swN_inj) List.nodup_range) List.nodup_range]
  intro x
  rw [List.mem_map]
  constructor
  · rintro ⟨i, hi, rfl⟩
    exact List.mem_range.2 (swN_lt ha hb (List.mem_range.1 hi))
  · intro hx
    exact ⟨swN a b x, List.mem_range.2 (swN_lt ha hb (List.mem_range.1 hx)), swN_swN a b x⟩

/-! ### down -/
/-- Every edge whose parent lies from s on. -/
def Hp (f : Nat → Int × Int) (n s : Nat) : Prop := ∀ x, 1 ≤ x → x < n → s ≤ (x - 1) / 2 → Le (f ((x - 1) / 2)) (f x)
/-- .. but those whose parent is c. -/
def Ok (f : Nat → Int × Int) (n s c : Nat) : Prop := ∀ x, 1 ≤ x → x < n → s ≤ (x - 1) / 2 → (x - 1) / 2 ≠ c → Le (f ((x - 1) / 2)) (f x)
/-- What lies above c is no more than c's children. -/
def Up (f : Nat → Int × Int) (n s c : Nat) : Prop := c = s ∨ (1 ≤ c ∧ s ≤ (c - 1) / 2 ∧ ∀ x, (x = 2 * c + 1 ∨ x = 2 * c + 2) → x < n → Le (f ((c - 1) / 2)) (f x))

def pick1 (f : Nat → Int × Int) (n c : Nat) : Nat := if 2 * c + 1 < n ∧ lessB (f (2 * c + 1)) (f c) = true then 2 * c + 1 else c
def pick (f : Nat → Int × Int) (n c : Nat) : Nat := if 2 * c + 2 < n ∧ lessB (f (2 * c + 2)) (f (pick1 f n c)) = true then 2 * c + 2 else pick1 f n c

theorem pick1_cases (f : Nat → Int × Int) (n c : Nat) : (pick1 f n c = 2 * c + 1 ∧ 2 * c + 1 < n ∧ Le (f (2 * c + 1)) (f c)) ∨ (pick1 f n c = c ∧ (2 * c + 1 < n → Le (f c) (f (2 * c + 1)))) := by
  unfold pick1
  by_cases h : 2 * c + 1 < n ∧ lessB (f (2 * c + 1)) (f c) = true
  · rw [if_pos h]; exact .inl ⟨rfl, h.1, le_of_less h.2⟩
  · rw [if_neg h]
    refine .inr ⟨rfl, fun hl => le_of_not ?_⟩
    cases hb : lessB (f (2 * c + 1)) (f c) with
    | false => rfl
    | true => exact (h ⟨hl, hb⟩).elim

/-- The picked place is least among c and its children. -/
theorem pick_spec (f : Nat → Int × Int) (n c : Nat) (hc : c < n) : (pick f n c = c ∨ pick f n c = 2 * c + 1 ∨ pick f n c = 2 * c + 2) ∧ pick f n c < n ∧ Le (f (pick f n c)) (f c) ∧
    (2 * c + 1 < n → Le (f (pick f n c)) (f (2 * c + 1))) ∧ (2 * c + 2 < n → Le (f (pick f n c)) (f (2 * c + 2))) := by
  have h1 := pick1_cases f n c
  unfold pick
  by_cases h : 2 * c + 2 < n ∧ lessB (f (2 * c + 2)) (f (pick1 f n c)) = true
  · rw [if_pos h]
    have hle := le_of_less h.2
    rcases h1 with ⟨e, hl, hle1⟩ | ⟨e, hle1⟩
    · rw [e] at hle
      exact ⟨.inr (.inr rfl), h.1, hle.trans hle1, fun _ => hle, fun _ => Le.refl _⟩
    · rw [e] at hle
      exact ⟨.inr (.inr rfl), h.1, hle, fun hl => hle.trans (hle1 hl), fun _ => Le.refl _⟩
  · rw [if_neg h]
    have hno : 2 * c + 2 < n → Le (f (pick1 f n c)) (f (2 * c + 2)) := fun hr => by
      refine le_of_not ?_
      cases hb : lessB (f (2 * c + 2)) (f (pick1 f n c)) with
      | false => rfl
      | true => exact (h ⟨hr, hb⟩).elim
    rcases h1 with ⟨e, hl, hle1⟩ | ⟨e, hle1⟩
    · rw [e] at hno ⊢
      exact ⟨.inr (.inl rfl), hl, hle1, fun _ => Le.refl _, hno⟩
    · rw [e] at hno ⊢
      exact ⟨.inl rfl, hc, Le.refl _, hle1, hno⟩

theorem pick_done {f : Nat → Int × Int} {n s c : Nat} (hc : c < n) (h : Ok f n s c) (e : pick f n c = c) : Hp f n s := by
  obtain ⟨_, _, _, hl, hr⟩ := pick_spec f n c hc
  rw [e] at hl hr
  intro x h1 hx hs
  by_cases hp : (x - 1) / 2 = c
  · rw [hp]
    have : x = 2 * c + 1 ∨ x = 2 * c + 2 := by omega
    rcases this with rfl | rfl
    · exact hl hx
    · exact hr hx
  · exact h x h1 hx hs hp

theorem pick_step {f : Nat → Int × Int} {n s c : Nat} (hc : c < n) (h : Ok f n s c) (hu : Up f n s c) (ne : pick f n c ≠ c) :
    Ok (swp f (pick f n c) c) n s (pick f n c) ∧ Up (swp f (pick f n c) c) n s (pick f n c) ∧ pick f n c < n ∧ c < pick f n c := by
  obtain ⟨hd, hdn, hdc, hl, hr⟩ := pick_spec f n c hc
  generalize pick f n c = d at *
  have hd' : d = 2 * c + 1 ∨ d = 2 * c + 2 := by omega
  have hcd : c < d := by omega
  have hpd : (d - 1) / 2 = c := by omega
  have hsc : s ≤ c := by
    rcases hu with rfl | ⟨h1, h2, _⟩ <;> omega
  refine ⟨?_, ?_, hdn, hcd⟩
  · intro x h1 hx hs hp
    by_cases hpc : (x - 1) / 2 = c
    · rw [hpc, swp_right]
      by_cases hxd : x = d
      · subst hxd; rw [swp_left]; exact hdc
      · rw [swp_other f hxd (by omega)]
        have : x = 2 * c + 1 ∨ x = 2 * c + 2 := by omega
        rcases this with rfl | rfl
        · exact hl hx
        · exact hr hx
    · rw [swp_other f hp hpc]
      have hxd : x ≠ d := by rintro rfl; exact hpc hpd
      by_cases hxc : x = c
      · subst hxc
        rw [swp_right]
        rcases hu with rfl | ⟨h3, h4, h5⟩
        · omega
        · exact h5 d hd' hdn
      · rw [swp_other f hxd hxc]
        exact h x h1 hx hs hpc
  · refine .inr ⟨by omega, by omega, fun x hx hxn => ?_⟩
    rw [hpd, swp_right, swp_other f (by omega) (by omega)]
    have e : (x - 1) / 2 = d := by omega
    have := h x (by omega) hxn (by omega) (by omega)
    rwa [e] at this

theorem Ok.of_hp {f : Nat → Int × Int} {n s : Nat} (h : Hp f n (s + 1)) : Ok f n s s := fun x h1 hx hs hp => h x h1 hx (by omega)

/-- The root is least. -/
theorem root_le {f : Nat → Int × Int} {n : Nat} (h : Hp f n 0) : ∀ j, j < n → Le (f 0) (f j) := by
  intro j
  induction j using Nat.strongRecOn with
  | _ j ih =>
    intro hj
    by_cases h0 : j = 0
    · subst h0; exact Le.refl _
    · exact (ih ((j - 1) / 2) (by omega) (by omega)).trans (h j (by omega) hj (by omega))

/-! ### draining -/
structure Drain (orig out : List (Int × Int)) (m : Nat) (f : Nat → Int × Int) : Prop where
  perm : (out ++ lst m f).Perm orig
  sorted : out.Pairwise Le
  low : ∀ a ∈ out, ∀ j, j < m → Le a (f j)
  heap : Hp f m 0

/-- What removeLeast makes of the heads, on the places that are left. -/
theorem lst_drop {m : Nat} {f g : Nat → Int × Int} (h0 : 0 < m → g 0 = f m) (h1 : ∀ i, 0 < i → i < m → g i = f i) : (f 0 :: lst m g).Perm (lst (m + 1) f) := by
  cases m with
  | zero => simp [lst, List.range_succ]
  | succ m =>
    have e1 : lst (m + 1) g = f (m + 1) :: (List.range m).map (fun i => f (i + 1)) := by
      unfold lst
      rw [List.range_succ_eq_map, List.map_cons, h0 (by omega), List.map_map]
      congr 1
      refine List.map_congr_left fun i hi => ?_
      have := List.mem_range.1 hi
      exact h1 (i + 1) (by omega) (by omega)
    have e2 : lst (m + 1 + 1) f = f 0 :: ((List.range m).map (fun i => f (i + 1)) ++ [f (m + 1)]) := by
      rw [lst_succ]
      unfold lst
      rw [List.range_succ_eq_map, List.map_cons, List.map_map]
      rfl
    rw [e1, e2]
    exact List.Perm.cons _ (List.perm_append_singleton _ _).symm

theorem Drain.step {orig out : List (Int × Int)} {m : Nat} {f g g' : Nat → Int × Int} (h : Drain orig out (m + 1) f) (h0 : 0 < m → g 0 = f m) (h1 : ∀ i, 0 < i → i < m → g i = f i)
    (hp : (lst m g').Perm (lst m g)) (hh : Hp g' m 0) : Drain orig (out ++ [f 0]) m g' := by
  have hmem : ∀ j, j < m → ∃ i, i < m + 1 ∧ f i = g' j := by
    intro j hj
    have : g' j ∈ lst m g := hp.mem_iff.1 (mem_lst.2 ⟨j, hj, rfl⟩)
    have h2 : g' j ∈ f 0 :: lst m g := List.mem_cons_of_mem _ this
    exact mem_lst.1 ((lst_drop h0 h1).mem_iff.1 h2)
  refine ⟨?_, ?_, ?_, hh⟩
  · rw [List.append_assoc]
    refine List.Perm.trans (List.Perm.append_left out ?_) h.perm
    exact (List.Perm.cons _ hp).trans (lst_drop h0 h1)
  · rw [List.pairwise_append]
    refine ⟨h.sorted, by simp, fun a ha b hb => ?_⟩
    simp at hb
    subst hb
    exact h.low a ha 0 (by omega)
  · intro a ha j hj
    obtain ⟨i, hi, e⟩ := hmem j hj
    rw [← e]
    rcases List.mem_append.1 ha with ha | ha
    · exact h.low a ha i hi
    · simp at ha
      subst ha
      exact root_le h.heap i hi

/-- removeLeast leaves all edges but the root's. -/
theorem hp_drop {m : Nat} {f g : Nat → Int × Int} (h : Hp f (m + 1) 0) (h1 : ∀ i, 0 < i → i < m → g i = f i) : Hp g m 1 := by
  intro x hx1 hx hs
  rw [h1 x (by omega) hx, h1 ((x - 1) / 2) (by omega) (by omega)]
  exact h x hx1 (by omega) (by omega)

/-! ### the stable insertion sort -/
structure Outer (v : Nat → Int) (n i : Nat) (e : Nat → Int × Int) : Prop where
  perm : (lst n e).Perm (lst n fun k => (v k, (k : Int)))
  sorted : ∀ a b, a < b → b < i → Le (e a) (e b)
  small : ∀ a, a < i → (e a).2 < (i : Int)
  rest : ∀ a, i ≤ a → a < n → e a = (v a, (a : Int))

structure Inner (v : Nat → Int) (n i j : Nat) (e : Nat → Int × Int) : Prop where
  perm : (lst n e).Perm (lst n fun k => (v k, (k : Int)))
  sorted : ∀ a b, a < b → b ≤ i → a ≠ j → b ≠ j → Le (e a) (e b)
  high : ∀ b, j < b → b ≤ i → (e j).1 < (e b).1
  own : (e j).2 = (i : Int)
  small : ∀ a, a ≤ i → a ≠ j → (e a).2 < (i : Int)
  rest : ∀ a, i < a → a < n → e a = (v a, (a : Int))

theorem Outer.inner {v : Nat → Int} {n i : Nat} {e : Nat → Int × Int} (h : Outer v n i e) (hi : i < n) : Inner v n i i e := by
  have := h.rest i (Nat.le_refl _) hi
  exact ⟨h.perm, fun a b hab hb _ hne => h.sorted a b hab (by omega), fun b h1 h2 => by omega, by rw [this], fun a ha hne => h.small a (by omega), fun a ha hn => h.rest a (by omega) hn⟩

theorem Inner.stop {v : Nat → Int} {n i j : Nat} {e : Nat → Int × Int} (h : Inner v n i j e) (hj : j ≤ i) (hstop : 0 < j → (e (j - 1)).1 ≤ (e j).1) : Outer v n (i + 1) e := by
  refine ⟨h.perm, ?_, ?_, fun a ha hn => h.rest a (by omega) hn⟩
  · intro a b hab hb
    by_cases ha : a = j
    · subst ha
      exact .inl (h.high b hab (by omega))
    · by_cases hbj : b = j
      · subst hbj
        have hs := hstop (by omega)
        have h2 := h.small a (by omega) ha
        have h3 := h.own
        have h1 : (e a).1 ≤ (e (b - 1)).1 := by
          by_cases he : a = b - 1
          · rw [he]; omega
          · have := h.sorted a (b - 1) (by omega) (by omega) ha (by omega)
            unfold Le at this
            omega
        unfold Le
        omega
      · exact h.sorted a b hab (by omega) ha hbj
  · intro a ha
    by_cases hj' : a = j
    · subst hj'; rw [h.own]; omega
    · have := h.small a (by omega) hj'
      omega

theorem Inner.step {v : Nat → Int} {n i j : Nat} {e : Nat → Int × Int} (h : Inner v n i (j + 1) e) (hj : j + 1 ≤ i) (hi : i < n) (hgt : (e (j + 1)).1 < (e j).1) : Inner v n i j (swp e j (j + 1)) := by
  refine ⟨(lst_swp e (by omega) (by omega)).trans h.perm, ?_, ?_, ?_, ?_, ?_⟩
  · intro a b hab hb ha hbj
    have ea : ∀ c, c ≠ j → swp e j (j + 1) c = if c = j + 1 then e j else e c := fun c hc => by simp [swp, hc]
    rw [ea a ha, ea b hbj]
    by_cases h1 : a = j + 1
    · rw [if_pos h1, if_neg (by omega)]
      exact h.sorted j b (by omega) hb (by omega) (by omega)
    · rw [if_neg h1]
      by_cases h2 : b = j + 1
      · rw [if_pos h2]
        exact h.sorted a j (by omega) (by omega) h1 (by omega)
      · rw [if_neg h2]
        exact h.sorted a b hab hb h1 h2
  · intro b hb1 hb2
    rw [swp_left]
    by_cases h2 : b = j + 1
    · subst h2; rw [swp_right]; exact hgt
    · rw [swp_other e (by omega) h2]
      exact h.high b (by omega) hb2
  · rw [swp_left]; exact h.own
  · intro a ha hne
    by_cases h2 : a = j + 1
    · subst h2; rw [swp_right]; exact h.small j (by omega) (by omega)
    · rw [swp_other e hne h2]; exact h.small a ha h2
  · intro a ha hn
    rw [swp_other e (by omega) (by omega)]
    exact h.rest a ha hn

theorem pairwise_lst {n : Nat} {e : Nat → Int × Int} (h : ∀ a b, a < b → b < n → Le (e a) (e b)) : (lst n e).Pairwise Le := by
  induction n with
  | zero => simp [lst]
  | succ n ih =>
    rw [lst_succ, List.pairwise_append]
    refine ⟨ih fun a b hab hb => h a b hab (by omega), by simp, fun a ha b hb => ?_⟩
    simp at hb
    subst hb
    obtain ⟨i, hi, rfl⟩ := mem_lst.1 ha
    exact h i n hi (by omega)

/-- Both roads come to one list. -/
theorem meet {v : Nat → Int} {n : Nat} {out : List (Int × Int)} {f e : Nat → Int × Int} (hd : Drain (lst n fun k => (v k, (k : Int))) out 0 f) (ho : Outer v n n e) : out = lst n e := by
  have hp : out.Perm (lst n e) := by
    have := hd.perm
    simp [lst] at this
    exact this.trans ho.perm.symm
  exact hp.eq_of_pairwise (fun a b _ _ h k => Le.antisymm h k) hd.sorted (pairwise_lst ho.sorted)
end Go.Proofs.Ybulkcglg.HeapLaw
