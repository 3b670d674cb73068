import Derived.Test.YbulkcgnkDoorMem
import Derived.MapKept
namespace Go.Proofs.YbulkcgnkDoor
open Go.RowKit Go.MapKept

/-- Block M is a map keyed by ints: the keys 'dom', at each key k the value 'g k'. -/
def MapF (W : World) (M : Nat) (dom : List Int) (g : Int → Value) : Prop :=
  ∃ es clock, W.heap[M]? = some (.map es clock) ∧ dom.Nodup ∧ es.toList.map (fun e => (e.key, e.val)) = dom.map (fun k => (Value.int .i64 k, g k))

section
variable {W W' : World} {M : Nat} {dom : List Int} {g : Int → Value}

theorem MapF.lt (h : MapF W M dom g) : M < W.heap.size := by
  obtain ⟨es, c, hb, _⟩ := h
  exact (Array.getElem?_eq_some_iff.1 hb).1
theorem MapF.of_block (h : MapF W M dom g) (e : W'.heap[M]? = W.heap[M]?) : MapF W' M dom g := by
  obtain ⟨es, c, hb, r⟩ := h
  exact ⟨es, c, e.trans hb, r⟩
theorem mapF_new (W : World) (g : Int → Value) : MapF (W.alloc (.map #[] 0)) W.heap.size [] g :=
  ⟨#[], 0, heap_alloc_new W _, by simp, by simp⟩

theorem getObj_map {P : Program} {es : Array MapEntry} {c : Nat} (hb : W.heap[M]? = some (.map es c)) : (getObj M).run P W = .ok (.map es c) W := by simp [getObj, Sem.run, hb]
theorem setObj_map {P : Program} {es : Array MapEntry} {c : Nat} (o : Obj) (hb : W.heap[M]? = some (.map es c)) : (setObj M o).run P W = .ok () { W with heap := W.heap.setIfInBounds M o } := by simp [setObj, Sem.run, hb]

theorem keys_int {es : List MapEntry} (h : es.map (fun e => (e.key, e.val)) = dom.map (fun k => (Value.int .i64 k, g k))) : ∀ x ∈ es, IsKey (.int .i64) x.key := by
  intro x hx
  have : (x.key, x.val) ∈ dom.map (fun k => (Value.int .i64 k, g k)) := by rw [← h]; exact List.mem_map_of_mem hx
  obtain ⟨k, _, e⟩ := List.mem_map.1 this
  simp at e
  rw [← e.1]
  rfl

theorem find_dom {es : List MapEntry} (h : es.map (fun e => (e.key, e.val)) = dom.map (fun k => (Value.int .i64 k, g k))) (k : Int) :
    (Instr.findNow (.int .i64) (.int .i64 k) es 0 = some none ∧ k ∉ dom) ∨ ∃ j e, Instr.findNow (.int .i64) (.int .i64 k) es 0 = some (some (j, g k)) ∧ es[j]? = some e ∧ e.key = .int .i64 k ∧ dom[j]? = some k ∧ k ∈ dom := by
  rcases findNow_spec (d := .int .i64) (k := .int .i64 k) rfl es 0 (keys_int h) with ⟨h1, h2⟩ | ⟨j, e, h1, h2, h3⟩
  · refine .inl ⟨h1, fun hk => ?_⟩
    have : (Value.int .i64 k, g k) ∈ es.map (fun e => (e.key, e.val)) := by rw [h]; exact List.mem_map_of_mem hk
    obtain ⟨x, hx, e⟩ := List.mem_map.1 this
    simp at e
    exact h2 x hx e.1
  · have hj : (es.map (fun e => (e.key, e.val)))[j]? = some (e.key, e.val) := by simp [h2]
    rw [h] at hj
    simp at hj
    obtain ⟨k', hk', e1, e2⟩ := hj
    rw [h3] at e1
    simp at e1
    subst e1
    rw [← e2] at h1
    refine .inr ⟨j, e, by simpa using h1, h2, h3, hk', List.mem_of_getElem? hk'⟩

/-- 'm[k]'. -/
theorem MapF.look {P : Program} {t kt et : TypeId} {z : Value} (h : MapF W M dom g) (ht : P.underlying t = some (.map kt et)) (hk : P.underlying kt = some (.int .i64)) (hz : ∀ w, (zeroValue et).run P w = .ok z w) (k : Int) :
    (Instr.lookup t (.map (some M)) (.int .i64 k) false).run P W = .ok (if k ∈ dom then g k else z) W := by
  obtain ⟨es, c, hb, hn, he⟩ := h
  have hc := run_checkKey (P := P) (w := W) (k := .int .i64 k) hk rfl es.isEmpty 9999
  rcases find_dom he k with ⟨h1, h2⟩ | ⟨j, e, h1, _, _, _, h2⟩
  · have hf := run_findKey (P := P) (w := W) hk h1
    rw [if_neg h2]
    simp only [Instr.lookup, Sem.run_bind, run_underlying ht, getObj_map hb, Result.andThen, Sem.run_pure]
    rw [show (10000 : Nat) = 9999 + 1 from rfl, hc]
    simp [hf, hz]
  · have hf := run_findKey (P := P) (w := W) hk h1
    rw [if_pos h2]
    simp only [Instr.lookup, Sem.run_bind, run_underlying ht, getObj_map hb, Result.andThen, Sem.run_pure]
    rw [show (10000 : Nat) = 9999 + 1 from rfl, hc]
    simp [hf]

/-- 'v, ok := m[k]'. -/
theorem MapF.lookOk {P : Program} {t kt et : TypeId} {z : Value} (h : MapF W M dom g) (ht : P.underlying t = some (.map kt et)) (hk : P.underlying kt = some (.int .i64)) (hz : ∀ w, (zeroValue et).run P w = .ok z w) (k : Int) :
    (Instr.lookup t (.map (some M)) (.int .i64 k) true).run P W = .ok (.tuple #[if k ∈ dom then g k else z, .bool (decide (k ∈ dom))]) W := by
  obtain ⟨es, c, hb, hn, he⟩ := h
  have hc := run_checkKey (P := P) (w := W) (k := .int .i64 k) hk rfl es.isEmpty 9999
  rcases find_dom he k with ⟨h1, h2⟩ | ⟨j, e, h1, _, _, _, h2⟩
  · have hf := run_findKey (P := P) (w := W) hk h1
    rw [if_neg h2, decide_eq_false h2]
    simp only [Instr.lookup, Sem.run_bind, run_underlying ht, getObj_map hb, Result.andThen, Sem.run_pure]
    rw [show (10000 : Nat) = 9999 + 1 from rfl, hc]
    simp [hf, hz, Result.andThen]
  · have hf := run_findKey (P := P) (w := W) hk h1
    rw [if_pos h2, decide_eq_true h2]
    simp only [Instr.lookup, Sem.run_bind, run_underlying ht, getObj_map hb, Result.andThen, Sem.run_pure]
    rw [show (10000 : Nat) = 9999 + 1 from rfl, hc]
    simp [hf]

/-- The keys behind a store at k. -/
def domPut (dom : List Int) (k : Int) : List Int := if k ∈ dom then dom else dom ++ [k]
def valPut (g : Int → Value) (k : Int) (v : Value) : Int → Value := fun x => if x = k then v else g x

theorem mem_domPut {dom : List Int} {k x : Int} : x ∈ domPut dom k ↔ x ∈ dom ∨ x = k := by
  unfold domPut
  split
  · constructor
    · exact .inl
    · rintro (h | rfl) <;> assumption
  · simp

/-- 'm[k] = v'. -/
theorem MapF.put {P : Program} {t kt et : TypeId} (h : MapF W M dom g) (ht : P.underlying t = some (.map kt et)) (hk : P.underlying kt = some (.int .i64)) (k : Int) (v : Value) :
    ∃ W', (Instr.mapUpdate t (.map (some M)) (.int .i64 k) v).run P W = .ok () W' ∧ MapF W' M (domPut dom k) (valPut g k v) ∧ Touch [M] W W' := by
  obtain ⟨es, c, hb, hn, he⟩ := h
  have hlt : M < W.heap.size := (Array.getElem?_eq_some_iff.1 hb).1
  have hc := run_checkKey (P := P) (w := W) (k := .int .i64 k) hk rfl false 9999
  have tou : ∀ o : Obj, Touch [M] W { W with heap := W.heap.setIfInBounds M o } := fun o =>
    ⟨rfl, rfl, rfl, by simp, fun i hi hne => by simp at hne; simp [Ne.symm hne]⟩
  rcases find_dom he k with ⟨h1, h2⟩ | ⟨j, e, h1, hj, hek, hdj, h2⟩
  · have hf := run_findKey (P := P) (w := W) hk h1
    refine ⟨{ W with heap := W.heap.setIfInBounds M (.map (es.push { key := .int .i64 k, val := v, born := c }) (c + 1)) }, ?_, ?_, tou _⟩
    · simp only [Instr.mapUpdate, Sem.run_bind, run_underlying ht, getObj_map hb, Result.andThen]
      rw [show (10000 : Nat) = 9999 + 1 from rfl, hc]
      simp only [hf]
      exact setObj_map _ hb
    · refine ⟨es.push { key := .int .i64 k, val := v, born := c }, c + 1, by simp [hlt], ?_, ?_⟩
      · rw [domPut, if_neg h2, List.nodup_append]
        refine ⟨hn, by simp, fun a ha b hb' => ?_⟩
        simp at hb'
        subst hb'
        exact fun e => h2 (e ▸ ha)
      · rw [domPut, if_neg h2]
        simp only [Array.toList_push, List.map_append, he, List.map_cons, List.map_nil]
        congr 1
        · refine List.map_congr_left fun x hx => ?_
          have : x ≠ k := fun e => h2 (e ▸ hx)
          simp [valPut, this]
        · simp [valPut]
  · have hf := run_findKey (P := P) (w := W) hk h1
    have hjs : j < es.size := by
      have := (List.getElem?_eq_some_iff.1 hj).1
      simpa using this
    have hkey : (((es[j]?).map (·.key)).getD (.int .i64 k)) = .int .i64 k := by
      have : es[j]? = some e := by simpa using hj
      simp [this, hek]
    have hst := run_keyThatStays (P := P) (w := W) (d := .int .i64) (k := .int .i64 k) rfl
    refine ⟨{ W with heap := W.heap.setIfInBounds M (.map (es.modify j fun e => { e with key := .int .i64 k, val := v }) c) }, ?_, ?_, tou _⟩
    · simp only [Instr.mapUpdate, Sem.run_bind, run_underlying ht, getObj_map hb, Result.andThen]
      rw [show (10000 : Nat) = 9999 + 1 from rfl, hc]
      simp only [hf, hkey, Sem.run_bind, hst, Result.andThen]
      exact setObj_map _ hb
    · refine ⟨es.modify j fun e => { e with key := .int .i64 k, val := v }, c, by simp [hlt], ?_, ?_⟩
      · rw [domPut, if_pos h2]; exact hn
      · rw [domPut, if_pos h2]
        apply List.ext_getElem?
        intro i
        have hi := congrArg (fun l => l[i]?) he
        simp only [List.getElem?_map] at hi ⊢
        rw [Array.getElem?_toList, Array.getElem?_modify]
        by_cases hij : j = i
        · subst hij
          have : es[j]? = some e := by simpa using hj
          simp [this, hdj, valPut]
        · rw [if_neg hij]
          rw [Array.getElem?_toList] at hi
          rw [hi]
          cases hd : dom[i]? with
          | none => rfl
          | some x =>
            have hx : x ≠ k := by
              rintro rfl
              obtain ⟨hi', e1⟩ := List.getElem?_eq_some_iff.1 hd
              obtain ⟨hj', e2⟩ := List.getElem?_eq_some_iff.1 hdj
              have hp := List.pairwise_iff_getElem.1 hn
              rcases Nat.lt_or_gt_of_ne hij with hlt' | hlt'
              · exact hp j i hj' hi' hlt' (e2.trans e1.symm)
              · exact hp i j hi' hj' hlt' (e1.trans e2.symm)
            simp [valPut, hx]

/-- 'len(m)'. -/
theorem MapF.size (h : MapF W M dom g) : ∃ es c, W.heap[M]? = some (.map es c) ∧ es.size = dom.length := by
  obtain ⟨es, c, hb, _, he⟩ := h
  refine ⟨es, c, hb, ?_⟩
  have := congrArg List.length he
  simpa using this
end
end Go.Proofs.YbulkcgnkDoor
