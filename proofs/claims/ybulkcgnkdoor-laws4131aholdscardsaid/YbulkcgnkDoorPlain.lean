import Derived.Test.YbulkcgnkDoorOp
namespace Go.Proofs.YbulkcgnkDoor
open Go.RowKit

section
variable {T : Nat → Nat → Nat × Nat} {cnt : Nat → Nat} {it i n q : Nat} {f : Nat → Nat × Nat}

theorem doneL_prefix (T : Nat → Nat → Nat × Nat) (cnt : Nat → Nat) (it i : Nat) : ∀ d, doneL T cnt it i <+: doneL T cnt it (i + d)
  | 0 => List.prefix_refl _
  | d + 1 => by
    refine (doneL_prefix T cnt it i d).trans ?_
    show doneL T cnt it (i + d) <+: doneL T cnt it (i + d + 1)
    simp only [doneL]
    split
    · exact List.prefix_refl _
    · exact List.prefix_append _ _
theorem runH_prefix (f : Nat → Nat × Nat) (it q : Nat) : ∀ d, (runH f it q).2 <+: (runH f it (q + d)).2
  | 0 => List.prefix_refl _
  | d + 1 => by
    refine (runH_prefix f it q d).trans ?_
    show (runH f it (q + d)).2 <+: (runH f it (q + d + 1)).2
    simp only [runH]
    split
    · exact List.prefix_append _ _
    · exact List.prefix_refl _
theorem prefix_get {α : Type} {l l' : List α} (h : l <+: l') {j : Nat} {x : α} (hj : l[j]? = some x) : l'[j]? = some x := by
  obtain ⟨r, rfl⟩ := h
  rw [List.getElem?_append_left (List.getElem?_eq_some_iff.1 hj).1]
  exact hj

theorem doneL_get (hi : i < n) (h : (runH (T i) it (cnt i)).2 ≠ []) : (doneL T cnt it n)[(doneL T cnt it i).length]? = some (i, (runH (T i) it (cnt i)).2) := by
  have hp := doneL_prefix T cnt it (i + 1) (n - (i + 1))
  rw [show i + 1 + (n - (i + 1)) = n from by omega] at hp
  refine prefix_get hp ?_
  simp only [doneL]
  rw [if_neg h]
  simp
theorem runH_get {c : Nat} (hq : q < c) (h1 : rel (f q).1 = true) (h2 : (f q).2 = it) : (runH f it c).2[(runH f it q).2.length]? = some (q + 1, heldAfter (runH f it q).1 (f q).1) := by
  have hp := runH_prefix f it (q + 1) (c - (q + 1))
  rw [show q + 1 + (c - (q + 1)) = c from by omega] at hp
  refine prefix_get hp ?_
  rw [runH_hit h1 h2]
  simp
theorem runH_ne {c : Nat} (hq : q < c) (h1 : rel (f q).1 = true) (h2 : (f q).2 = it) : (runH f it c).2 ≠ [] := by
  intro e
  have := runH_get hq h1 h2
  rw [e] at this
  simp at this
theorem doneL_nil (h : (runH (T i) it (cnt i)).2 = []) : (doneL T cnt it (i + 1)).length = (doneL T cnt it i).length := by simp only [doneL]; rw [if_pos h]
theorem doneL_one (h : (runH (T i) it (cnt i)).2 ≠ []) : (doneL T cnt it (i + 1)).length = (doneL T cnt it i).length + 1 := by simp only [doneL]; rw [if_neg h]; simp

/-- How many of the first m items have a locker. -/
def usedN (T : Nat → Nat → Nat × Nat) (cnt : Nat → Nat) (n : Nat) : Nat → Nat
  | 0 => 0
  | m + 1 => if 0 < (doneL T cnt m n).length then usedN T cnt n m + 1 else usedN T cnt n m
theorem usedN_le (T : Nat → Nat → Nat × Nat) (cnt : Nat → Nat) (n : Nat) : ∀ m, usedN T cnt n m ≤ m
  | 0 => Nat.le_refl _
  | m + 1 => by
    have := usedN_le T cnt n m
    simp only [usedN]
    split <;> omega
theorem usedN_filter (T : Nat → Nat → Nat × Nat) (cnt : Nat → Nat) (n : Nat) : ∀ m, usedN T cnt n m = ((List.range m).filter (fun x => decide (0 < (doneL T cnt x n).length))).length
  | 0 => rfl
  | m + 1 => by
    rw [List.range_succ, List.filter_append]
    simp only [usedN, usedN_filter T cnt n m]
    by_cases h : 0 < (doneL T cnt m n).length
    · simp [h]
    · rw [if_neg h]
      simp [h]

theorem used_dom {dom : List Int} {L : Nat → List LK} (hnd : dom.Nodup) (hmd : ∀ k, k ∈ dom ↔ ∃ it : Nat, it < 4 ∧ k = (it : Int) ∧ L it ≠ []) (hL : ∀ it, (L it).map (fun l => (l.txn, l.hs)) = doneL T cnt it n) : dom.length = usedN T cnt n 4 := by
  have hp : dom.Perm (((List.range 4).filter (fun x => decide (0 < (doneL T cnt x n).length))).map (fun x : Nat => (x : Int))) := by
    refine (List.perm_ext_iff_of_nodup hnd ?_).2 fun k => ?_
    · refine List.Pairwise.map (R := fun a b => a ≠ b) _ (fun a b h => by omega) ?_
      exact (List.nodup_range (n := 4)).filter _
    · rw [hmd]
      simp only [List.mem_map, List.mem_filter, List.mem_range, decide_eq_true_eq]
      constructor
      · rintro ⟨it, h1, rfl, h3⟩
        refine ⟨it, ⟨h1, ?_⟩, rfl⟩
        rw [← hL, List.length_map]
        exact List.length_pos_iff.2 h3
      · rintro ⟨it, ⟨h1, h2⟩, rfl⟩
        refine ⟨it, h1, rfl, ?_⟩
        rw [← hL, List.length_map] at h2
        exact List.length_pos_iff.1 h2
  rw [hp.length_eq, List.length_map, usedN_filter]
end

section
variable {w : World} {tv : Value} {W W' : World} {S : Nat → Value} {L : Nat → List LK} {who : Nat → Option (Nat × Option Nat)} {dom : List Int} {T : Nat → Nat → Nat × Nat} {cnt : Nat → Nat} {n it k : Nat}

/-- The item's lockers, by the length that the plain side tells. -/
theorem Core.len (h : Core w tv W S L who dom) (hL : ∀ it, (L it).map (fun l => (l.txn, l.hs)) = doneL T cnt it n) (it : Nat) : ∃ sa sc, S it = .slice sa (doneL T cnt it n).length sc := by
  have := own_slice (h.own.lock it)
  rw [← hL it, List.length_map]
  exact this

/-- One locker, as it lies. -/
theorem Core.lockAt (h : Core w tv W S L who dom) (hL : ∀ it, (L it).map (fun l => (l.txn, l.hs)) = doneL T cnt it n) {x : Nat × List (Nat × Int)} (hx : (doneL T cnt it n)[k]? = some x) :
    ∃ gS cS ha hc, S it = .slice (some ⟨gS, 0, none⟩) (doneL T cnt it n).length cS ∧ gS < W.heap.size ∧ W.cell? ⟨gS, k * 2, none⟩ = some (.int .i64 (x.1 : Int)) ∧ W.cell? ⟨gS, k * 2 + 1, none⟩ = some (.slice ha x.2.length hc) ∧
      ∀ (m : Nat) (p : Nat × Int), x.2[m]? = some p → ∃ gh, ha = some ⟨gh, 0, none⟩ ∧ gh < W.heap.size ∧ W.cell? ⟨gh, m * 2, none⟩ = some (.int .i64 (p.1 : Int)) ∧ W.cell? ⟨gh, m * 2 + 1, none⟩ = some (.int .u16 p.2) := by
  have hlk := h.own.lock it
  rw [← hL it, List.getElem?_map] at hx
  obtain ⟨l, hl, rfl⟩ := Option.map_eq_some_iff.1 hx
  have hkl : k < (L it).length := (List.getElem?_eq_some_iff.1 hl).1
  obtain ⟨gS, cS, hS, _, hlt⟩ := hlk.form (by omega)
  rw [hS] at hlk
  obtain ⟨c0, c1⟩ := lcells_get (L it) k l hl
  have hh := h.own.hold it k l hl
  obtain ⟨ha, hc, hv⟩ := own_slice hh
  refine ⟨gS, cS, ha, hc, by rw [hS, ← hL it, List.length_map], hlt, by rw [hlk.cellAt _ (by omega), c0], by rw [hlk.cellAt _ (by omega), c1, hv], fun m p hm => ?_⟩
  have hml : m < l.hs.length := (List.getElem?_eq_some_iff.1 hm).1
  obtain ⟨gh, ch, hv', _, hlt'⟩ := hh.form (by omega)
  have hv2 := hv
  rw [hv'] at hv2
  simp at hv2
  rw [hv'] at hh
  obtain ⟨d0, d1⟩ := hcells_get l.hs m p hm
  exact ⟨gh, hv2.1.symm, hlt', by rw [hh.cellAt _ (by omega), d0], by rw [hh.cellAt _ (by omega), d1]⟩
end
end Go.Proofs.YbulkcgnkDoor
