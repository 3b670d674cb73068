import Derived.Test.YbulkcglgRange
namespace Go.Proofs.Ybulkcglg
open Go.RowKit
attribute [local go_sem] Oper.semAt_some

/-- Element k starts a run. -/
def isNew (z : Nat → Int) (k : Nat) : Bool := (k == 0) || (z k != z (k - 1))

/-- The five blocks that Compact's closure lays. -/
structure Own5 (N l0 : Nat) (V : World) (la : Int) (st : Bool) (o : Obj) : Prop where
  y : V.heap[N]? = some (.cells #[.func (.yield l0) #[] #[]] 36 (0, 0))
  la : V.heap[N + 1]? = some (.cells #[.int .i8 la] 37 (0, 0))
  st : V.heap[N + 2]? = some (.cells #[.bool st] 4 (0, 0))
  d : V.heap[N + 3]? = some (.deferred (some []))
  l : V.heap[N + 4]? = some o

theorem Own5.keep {N l0 : Nat} {V V' : World} {la : Int} {st : Bool} {o : Obj} (h : Own5 N l0 V la st o) (k : Keep N (N + 5) V V') : Own5 N l0 V' la st o :=
  ⟨(k _ (by omega) (by omega)).trans h.y, (k _ (by omega) (by omega)).trans h.la, (k _ (by omega) (by omega)).trans h.st, (k _ (by omega) (by omega)).trans h.d, (k _ (by omega) (by omega)).trans h.l⟩

theorem keep_setCell {lo hi : Nat} {V : World} {a : Addr} {v : Value} (h : a.block < lo ∨ hi ≤ a.block) : Keep lo hi V (V.setCell a v) := fun k h1 h2 => Below.heap_setCell _ _ _ _ (by omega)

theorem Own5.putLoop {N l0 : Nat} {V : World} {la : Int} {st : Bool} {o : Obj} (h : Own5 N l0 V la st o) (o' : Obj) : Own5 N l0 (V.putObj (N + 4) o') la st o' :=
  ⟨(World.putObj_heap_other (by omega)).trans h.y, (World.putObj_heap_other (by omega)).trans h.la, (World.putObj_heap_other (by omega)).trans h.st, (World.putObj_heap_other (by omega)).trans h.d,
   World.putObj_heap_same (Array.getElem?_eq_some_iff.1 h.l).1⟩

theorem Own5.put2 {N l0 : Nat} {V : World} {la : Int} {st : Bool} {o : Obj} (h : Own5 N l0 V la st o) (x : Int) :
    Own5 N l0 ((V.setCell ⟨N + 1, 0, none⟩ (.int .i8 x)).setCell ⟨N + 2, 0, none⟩ (.bool true)) x true o := by
  refine ⟨?_, ?_, ?_, ?_, ?_⟩
  · rw [Below.heap_setCell _ _ _ _ (by simp), Below.heap_setCell _ _ _ _ (by simp)]; exact h.y
  · rw [Below.heap_setCell _ _ _ _ (by simp)]
    exact one_setCell h.la
  · refine one_setCell (v := .bool st) ?_
    rw [Below.heap_setCell _ _ _ _ (by simp)]; exact h.st
  · rw [Below.heap_setCell _ _ _ _ (by simp), Below.heap_setCell _ _ _ _ (by simp)]; exact h.d
  · rw [Below.heap_setCell _ _ _ _ (by simp), Below.heap_setCell _ _ _ _ (by simp)]; exact h.l

/-- The last element that came. -/
def lastOf (z : Nat → Int) (k : Nat) : Int := if k = 0 then 0 else z (k - 1)

set_option maxHeartbeats 400000 in
theorem compact_in (l0 Bs Bx Bp len cap : Nat) (a : Option Addr) (z : Nat → Int) (I : Nat → Nat → World → Prop) (Ix : Nat → World → Prop) (hlen : len ≤ 1024) (W : World)
    (hI : ∀ p k V, I p k V → V.cell? ⟨Bx, 0, none⟩ = some (.slice a len cap) ∧ V.cell? ⟨Bp, 0, none⟩ = some (.int .i64 p) ∧ V.frozen? ⟨Bp, 0, none⟩ = false ∧
      (∀ j, j < len → ∃ b off, a = some ⟨b, off, none⟩ ∧ V.cell? ⟨b, off + j, none⟩ = some (.int .i8 (z j))))
    (hBs : W.cell? ⟨Bs, 0, none⟩ = some (.func (.func 10) #[] #[.pointer (some ⟨Bx, 0, none⟩), .pointer (some ⟨Bp, 0, none⟩)]))
    (stab : ∀ p k V V', I p k V → Apart W.heap.size (W.heap.size + 5) V V' → I p k V')
    (stabx : ∀ k V V', Ix k V → Apart W.heap.size (W.heap.size + 5) V V' → Ix k V')
    (hpull : ∀ k V, k < len → I k k V → I (k + 1) k (V.setCell ⟨Bp, 0, none⟩ (.int .i64 ((k : Int) + 1))))
    (hskip : ∀ k V, k < len → isNew z k = false → I (k + 1) k V → I (k + 1) (k + 1) V)
    (hyield : ∀ k V, k < len → isNew z k = true → W.heap.size + 5 ≤ V.heap.size → I (k + 1) k V → YieldAt Fence.wide 0 Yba.prog l0 #[.int .i8 (z k)] V fun e V' =>
      (e = .returned (.bool true) ∧ I (k + 1) (k + 1) V' ∧ Keep W.heap.size (W.heap.size + 5) V V') ∨ (e = .returned (.bool false) ∧ Ix (k + 1) V' ∧ Keep W.heap.size (W.heap.size + 5) V V'))
    (h0 : I 0 0 W) :
    CallsIn Fence.wide 0 Yba.prog 13 #[.func (.yield l0) #[] #[], .pointer (some ⟨Bs, 0, none⟩)] W fun e W' => (∃ v, e = .returned v) ∧
      (I len len W' ∨ ∃ k, 1 ≤ k ∧ k ≤ len ∧ Ix k W') := by
  have hB3 : ∀ o1 o2 o3, (((W.alloc o1).alloc o2).alloc o3).cell? ⟨Bs, 0, none⟩ = some (.func (.func 10) #[] #[.pointer (some ⟨Bx, 0, none⟩), .pointer (some ⟨Bp, 0, none⟩)]) := fun o1 o2 o3 =>
    cell_alloc_some (cell_alloc_some (cell_alloc_some hBs))
  refine callsIn_of_wp_marks Yba.func13 rfl trivial ?_ rfl
  simp only [Yba.ntmps13, List.size_toArray, List.length_cons, List.length_nil, Nat.reduceAdd, Nat.reduceSub, Array.replicate_succ, Array.replicate_zero, List.push_toArray, List.append_toArray, List.nil_append, List.cons_append]
  gi_wp2
  refine range_enter (gf := 10) (lb := #[.pointer (some ⟨Bx, 0, none⟩), .pointer (some ⟨Bp, 0, none⟩)]) rfl (enters_of Yba.func10 (by kernel_rfl) rfl) ?_
  intro fn rec hrec
  have hs3 : (((W.alloc (Obj.cells #[Value.func (Fn.yield l0) #[] #[]] 36)).alloc (Obj.cells #[Value.int IntKind.i8 0] 37)).alloc (Obj.cells #[Value.bool false] 4)).heap.size = W.heap.size + 3 := by simp
  rw [hs3] at hrec ⊢
  have hBp0 : Bp < W.heap.size := World.block_lt_of_cell? W _ (hI 0 0 W h0).2.1
  have hA0 : Apart W.heap.size (W.heap.size + 5) W (((((W.alloc (Obj.cells #[Value.func (Fn.yield l0) #[] #[]] 36)).alloc (Obj.cells #[Value.int IntKind.i8 0] 37)).alloc (Obj.cells #[Value.bool false] 4)).alloc (Obj.deferred (some []))).alloc (Obj.loop (rec LoopState.ready none))) :=
    (((((Apart.refl _ _ W).alloc _).alloc _).alloc _).alloc _).alloc _
  have hO0 : Own5 W.heap.size l0 (((((W.alloc (Obj.cells #[Value.func (Fn.yield l0) #[] #[]] 36)).alloc (Obj.cells #[Value.int IntKind.i8 0] 37)).alloc (Obj.cells #[Value.bool false] 4)).alloc (Obj.deferred (some []))).alloc (Obj.loop (rec LoopState.ready none))) 0 false (.loop (rec .ready none)) := by
    refine ⟨?_, ?_, ?_, ?_, ?_⟩
    · rw [Below.heap_alloc _ _ _ (by simp only [World.size_alloc]; omega), Below.heap_alloc _ _ _ (by simp only [World.size_alloc]; omega), Below.heap_alloc _ _ _ (by simp only [World.size_alloc]; omega), Below.heap_alloc _ _ _ (by simp only [World.size_alloc]; omega)]
      exact World.alloc_heap_new _ _
    · rw [Below.heap_alloc _ _ _ (by simp only [World.size_alloc]; omega), Below.heap_alloc _ _ _ (by simp only [World.size_alloc]; omega), Below.heap_alloc _ _ _ (by simp only [World.size_alloc]; omega)]
      have := World.alloc_heap_new (W.alloc (Obj.cells #[Value.func (Fn.yield l0) #[] #[]] 36)) (Obj.cells #[Value.int IntKind.i8 0] 37)
      rwa [World.size_alloc] at this
    · rw [Below.heap_alloc _ _ _ (by simp only [World.size_alloc]; omega), Below.heap_alloc _ _ _ (by simp only [World.size_alloc]; omega)]
      have := World.alloc_heap_new ((W.alloc (Obj.cells #[Value.func (Fn.yield l0) #[] #[]] 36)).alloc (Obj.cells #[Value.int IntKind.i8 0] 37)) (Obj.cells #[Value.bool false] 4)
      rwa [World.size_alloc, World.size_alloc] at this
    · rw [Below.heap_alloc _ _ _ (by simp only [World.size_alloc]; omega)]
      have := World.alloc_heap_new (((W.alloc (Obj.cells #[Value.func (Fn.yield l0) #[] #[]] 36)).alloc (Obj.cells #[Value.int IntKind.i8 0] 37)).alloc (Obj.cells #[Value.bool false] 4)) (Obj.deferred (some []))
      rwa [World.size_alloc, World.size_alloc, World.size_alloc] at this
    · have := World.alloc_heap_new ((((W.alloc (Obj.cells #[Value.func (Fn.yield l0) #[] #[]] 36)).alloc (Obj.cells #[Value.int IntKind.i8 0] 37)).alloc (Obj.cells #[Value.bool false] 4)).alloc (Obj.deferred (some []))) (Obj.loop (rec LoopState.ready none))
      rwa [World.size_alloc, World.size_alloc, World.size_alloc, World.size_alloc] at this
  generalize (((((W.alloc (Obj.cells #[Value.func (Fn.yield l0) #[] #[]] 36)).alloc (Obj.cells #[Value.int IntKind.i8 0] 37)).alloc (Obj.cells #[Value.bool false] 4)).alloc (Obj.deferred (some []))).alloc (Obj.loop (rec LoopState.ready none))) = W1 at *
  clear hB3 hs3
  refine (src_in (W.heap.size + 4) Bx Bp len cap a z (fun k V => I k k V ∧ Own5 W.heap.size l0 V (lastOf z k) (decide (0 < k)) (.loop (rec .ready none)))
    (fun k V => Ix k V ∧ V.heap[W.heap.size + 3]? = some (.deferred (some [])) ∧ V.heap[W.heap.size + 4]? = some (.loop (rec .done (some .ret)))) hlen
    (fun k V h => hI k k V h.1) ?_ W1 ⟨stab _ _ _ _ h0 hA0, hO0⟩).mono ?_
  · rintro k V hk ⟨hIk, hO⟩
    have hI1 := hpull k V hk hIk
    have hO1 := hO.keep (keep_setCell (lo := W.heap.size) (hi := W.heap.size + 5) (V := V) (a := ⟨Bp, 0, none⟩) (v := .int .i64 ((k : Int) + 1)) (.inl hBp0))
    generalize V.setCell ⟨Bp, 0, none⟩ (.int .i64 ((k : Int) + 1)) = V1 at *
    clear hO hIk
    refine round_at hrec hO1.l rfl ?_
    clear hrec
    gi_wp2
    refine ⟨hO1.l, ?_⟩
    have hI2 := stab _ _ _ _ hI1 ((Apart.refl W.heap.size (W.heap.size + 5) V1).putObj (l := W.heap.size + 4) (by omega) (by omega) (.loop (rec .busy none)))
    have hO2 := hO1.putLoop (.loop (rec .busy none))
    generalize V1.putObj (W.heap.size + 4) (.loop (rec .busy none)) = V2 at *
    clear hO1 hI1
    have cy : V2.cell? ⟨W.heap.size, 0, none⟩ = some (.func (.yield l0) #[] #[]) := cell_of_one hO2.y
    have cla : V2.cell? ⟨W.heap.size + 1, 0, none⟩ = some (.int .i8 (lastOf z k)) := cell_of_one hO2.la
    have cst : V2.cell? ⟨W.heap.size + 1 + 1, 0, none⟩ = some (.bool (decide (0 < k))) := cell_of_one hO2.st
    have fla : V2.frozen? ⟨W.heap.size + 1, 0, none⟩ = false := free_of_one hO2.la
    have fst : V2.frozen? ⟨W.heap.size + 1 + 1, 0, none⟩ = false := free_of_one hO2.st
    by_cases hnew : isNew z k = true
    · -- the element starts a run
      have hA3 : Apart W.heap.size (W.heap.size + 5) V2 ((V2.setCell ⟨W.heap.size + 1, 0, none⟩ (.int .i8 (z k))).setCell ⟨W.heap.size + 1 + 1, 0, none⟩ (.bool true)) :=
        ((Apart.refl _ _ V2).setCell (a := ⟨W.heap.size + 1, 0, none⟩) (by simp) (by simp) _).setCell (a := ⟨W.heap.size + 1 + 1, 0, none⟩) (by simp only []; omega) (by simp only []; omega) _
      have hI3 := stab _ _ _ _ hI2 hA3
      have hO3 := hO2.put2 (z k)
      obtain ⟨fn2, tmps2, assign2, body2, hy, hR⟩ := hyield k _ hk hnew (Array.getElem?_eq_some_iff.1 hO3.l).1 hI3
      have c3 : ((V2.setCell ⟨W.heap.size + 1, 0, none⟩ (.int .i8 (z k))).setCell ⟨W.heap.size + 1 + 1, 0, none⟩ (.bool true)).cell? ⟨W.heap.size, 0, none⟩ = some (.func (.yield l0) #[] #[]) := cell_of_one hO3.y
      have hfin : ∀ (a' : Act) (V4 : World), I (k + 1) (k + 1) V4 → Keep W.heap.size (W.heap.size + 5) ((V2.setCell ⟨W.heap.size + 1, 0, none⟩ (.int .i8 (z k))).setCell ⟨W.heap.size + 1 + 1, 0, none⟩ (.bool true)) V4 →
          endPost (W.heap.size + 4) rec (fun e W' => (e = .returned (.bool true) ∧ I (k + 1) (k + 1) W' ∧ Own5 W.heap.size l0 W' (lastOf z (k + 1)) (decide (0 < k + 1)) (.loop (rec .ready none))) ∨
            (e = .returned (.bool false) ∧ Ix (k + 1) W' ∧ W'.heap[W.heap.size + 3]? = some (.deferred (some [])) ∧ W'.heap[W.heap.size + 4]? = some (.loop (rec .done (some .ret))))) .normal a' V4 := by
        intro a' V4 hI4 hK4
        have hO4 := hO3.keep hK4
        refine ⟨hO4.l, .inl ⟨rfl, stab _ _ _ _ hI4 ((Apart.refl W.heap.size (W.heap.size + 5) V4).putObj (l := W.heap.size + 4) (by omega) (by omega) _), ?_⟩⟩
        have := hO4.putLoop (.loop (rec .ready none))
        simpa [lastOf] using this
      have hfinx : ∀ (a' : Act) (V4 : World), Ix (k + 1) V4 → Keep W.heap.size (W.heap.size + 5) ((V2.setCell ⟨W.heap.size + 1, 0, none⟩ (.int .i8 (z k))).setCell ⟨W.heap.size + 1 + 1, 0, none⟩ (.bool true)) V4 →
          endPost (W.heap.size + 4) rec (fun e W' => (e = .returned (.bool true) ∧ I (k + 1) (k + 1) W' ∧ Own5 W.heap.size l0 W' (lastOf z (k + 1)) (decide (0 < k + 1)) (.loop (rec .ready none))) ∨
            (e = .returned (.bool false) ∧ Ix (k + 1) W' ∧ W'.heap[W.heap.size + 3]? = some (.deferred (some [])) ∧ W'.heap[W.heap.size + 4]? = some (.loop (rec .done (some .ret))))) .ret a' V4 := by
        intro a' V4 hI4 hK4
        have hO4 := hO3.keep hK4
        have hO5 := hO4.putLoop (.loop (rec .done (some .ret)))
        exact ⟨hO4.l, .inr ⟨rfl, stabx _ _ _ hI4 ((Apart.refl W.heap.size (W.heap.size + 5) V4).putObj (l := W.heap.size + 4) (by omega) (by omega) _), hO5.d, hO5.l⟩⟩
      have HF : Hid (∀ (a' : Act) (V4 : World), I (k + 1) (k + 1) V4 → Keep W.heap.size (W.heap.size + 5) ((V2.setCell ⟨W.heap.size + 1, 0, none⟩ (.int .i8 (z k))).setCell ⟨W.heap.size + 1 + 1, 0, none⟩ (.bool true)) V4 →
          endPost (W.heap.size + 4) rec (fun e W' => (e = .returned (.bool true) ∧ I (k + 1) (k + 1) W' ∧ Own5 W.heap.size l0 W' (lastOf z (k + 1)) (decide (0 < k + 1)) (.loop (rec .ready none))) ∨
            (e = .returned (.bool false) ∧ Ix (k + 1) W' ∧ W'.heap[W.heap.size + 3]? = some (.deferred (some [])) ∧ W'.heap[W.heap.size + 4]? = some (.loop (rec .done (some .ret))))) .normal a' V4) := hfin
      have HFx : Hid (∀ (a' : Act) (V4 : World), Ix (k + 1) V4 → Keep W.heap.size (W.heap.size + 5) ((V2.setCell ⟨W.heap.size + 1, 0, none⟩ (.int .i8 (z k))).setCell ⟨W.heap.size + 1 + 1, 0, none⟩ (.bool true)) V4 →
          endPost (W.heap.size + 4) rec (fun e W' => (e = .returned (.bool true) ∧ I (k + 1) (k + 1) W' ∧ Own5 W.heap.size l0 W' (lastOf z (k + 1)) (decide (0 < k + 1)) (.loop (rec .ready none))) ∨
            (e = .returned (.bool false) ∧ Ix (k + 1) W' ∧ W'.heap[W.heap.size + 3]? = some (.deferred (some [])) ∧ W'.heap[W.heap.size + 4]? = some (.loop (rec .done (some .ret))))) .ret a' V4) := hfinx
      clear hfin hfinx hO3 hO2 hI2 hI3 hA3 hI stab stabx hpull hskip hyield h0 hA0 hO0
      by_cases hk0 : k = 0
      · subst hk0
        have e1 : decide (0 < 0) = false := rfl
        gi_wp2
        refine ⟨rfl, RoundIn.mono (F := Fence.wide) hR ?_⟩
        rintro e V4 (⟨rfl, hI4, hK4⟩ | ⟨rfl, hI4, hK4⟩)
        · gi_wp2
          exact HF.out _ _ hI4 hK4
        · gi_wp2
          exact HFx.out _ _ hI4 hK4
      · have e1 : decide (0 < k) = true := by simp; omega
        have e2 : (z k == lastOf z k) = false := by
          simp [isNew, hk0] at hnew
          simp [lastOf, hk0, hnew]
        gi_wp2
        refine ⟨rfl, RoundIn.mono (F := Fence.wide) hR ?_⟩
        rintro e V4 (⟨rfl, hI4, hK4⟩ | ⟨rfl, hI4, hK4⟩)
        · gi_wp2
          exact HF.out _ _ hI4 hK4
        · gi_wp2
          exact HFx.out _ _ hI4 hK4
    · -- a repeat
      have hnew' : isNew z k = false := by simpa using hnew
      have hk0 : k ≠ 0 := by rintro rfl; simp [isNew] at hnew'
      have e1 : decide (0 < k) = true := by simp; omega
      have ez : z k = lastOf z k := by
        simp [isNew, hk0] at hnew'
        simp [lastOf, hk0, hnew']
      have e2 : (z k == lastOf z k) = true := by simp [ez]
      have hI3 := stab _ _ _ _ (hskip k V2 hk hnew' hI2) ((Apart.refl W.heap.size (W.heap.size + 5) V2).putObj (l := W.heap.size + 4) (by omega) (by omega) (.loop (rec .ready none)))
      have hO3 := hO2.putLoop (.loop (rec .ready none))
      have hl2 := hO2.l
      have hO4 : Own5 W.heap.size l0 (V2.putObj (W.heap.size + 4) (.loop (rec .ready none))) (lastOf z (k + 1)) (decide (0 < k + 1)) (.loop (rec .ready none)) := by
        have e3 : lastOf z (k + 1) = lastOf z k := by rw [← ez]; simp [lastOf]
        have e4 : decide (0 < k + 1) = decide (0 < k) := by simp; omega
        rw [e3, e4]; exact hO3
      have HH : Hid (V2.heap[W.heap.size + 4]? = some (.loop (rec .busy none)) ∧ I (k + 1) (k + 1) (V2.putObj (W.heap.size + 4) (.loop (rec .ready none))) ∧
        Own5 W.heap.size l0 (V2.putObj (W.heap.size + 4) (.loop (rec .ready none))) (lastOf z (k + 1)) (decide (0 < k + 1)) (.loop (rec .ready none))) := ⟨hl2, hI3, hO4⟩
      clear hl2 hI3 hO4 hO3 hO2 hI2 ez hI stab stabx hpull hskip hyield h0 hA0 hO0
      gi_wp2
      exact ⟨HH.out.1, .inl ⟨rfl, HH.out.2.1, HH.out.2.2⟩⟩
  · rintro e W2 ⟨⟨v, rfl⟩, (⟨hIe, hOe⟩ | ⟨k, hk1, hk2, hIx, hd, hl⟩)⟩
    · refine range_done hrec hOe.l ?_
      have hIe2 := stab _ _ _ _ hIe ((((Apart.refl W.heap.size (W.heap.size + 5) W2).putObj (l := W.heap.size + 4) (by omega) (by omega) (.loop (rec .exhausted none)))).putObj (l := W.heap.size + 3) (by omega) (by omega) (.deferred none))
      have hd := (hOe.putLoop (.loop (rec .exhausted none))).d
      clear hrec
      gi_wp2
      refine ⟨by simp, .inl ⟨_, _, rfl, run_takeDeferred hd, ?_⟩⟩
      exact ⟨_, results_none rfl _ _ _, ⟨_, rfl⟩, .inl hIe2⟩
    · refine range_left hrec hl ?_
      have hIe2 := stabx _ _ _ hIx ((((Apart.refl W.heap.size (W.heap.size + 5) W2).putObj (l := W.heap.size + 4) (by omega) (by omega) (.loop (rec .exhausted (some .ret))))).putObj (l := W.heap.size + 3) (by omega) (by omega) (.deferred none))
      have hd2 : (W2.putObj (W.heap.size + 4) (.loop (rec .exhausted (some .ret)))).heap[W.heap.size + 3]? = some (.deferred (some [])) := (World.putObj_heap_other (by omega)).trans hd
      clear hrec
      gi_wp2
      refine ⟨by simp, .inl ⟨_, _, rfl, run_takeDeferred hd2, ?_⟩⟩
      exact ⟨_, results_none rfl _ _ _, ⟨_, rfl⟩, .inr ⟨k, hk1, hk2, hIe2⟩⟩
end Go.Proofs.Ybulkcglg
