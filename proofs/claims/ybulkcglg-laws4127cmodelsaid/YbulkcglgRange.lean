import Derived.Test.YbulkcglgSrc
import Derived.Shelf.Abstract
namespace Go.Proofs.Ybulkcglg
open Go.RowKit

/-- Blocks lo .. hi-1, and new ones, alone may have turned. -/
structure Apart (lo hi : Nat) (W W' : World) : Prop where
  os : W'.os = W.os
  tape : W'.tape = W.tape
  output : W'.output = W.output
  size : W.heap.size ≤ W'.heap.size
  block : ∀ k, k < W.heap.size → (k < lo ∨ hi ≤ k) → W'.heap[k]? = W.heap[k]?

/-- Blocks lo .. hi-1 lie as they lay. -/
def Keep (lo hi : Nat) (W W' : World) : Prop := ∀ k, lo ≤ k → k < hi → W'.heap[k]? = W.heap[k]?

namespace Apart
variable {lo hi : Nat} {A B C : World}
theorem refl (lo hi : Nat) (A : World) : Apart lo hi A A := ⟨rfl, rfl, rfl, Nat.le_refl _, fun _ _ _ => rfl⟩
theorem trans (h : Apart lo hi A B) (k : Apart lo hi B C) : Apart lo hi A C :=
  ⟨k.os.trans h.os, k.tape.trans h.tape, k.output.trans h.output, Nat.le_trans h.size k.size, fun i hi' ho => (k.block i (Nat.lt_of_lt_of_le hi' h.size) ho).trans (h.block i hi' ho)⟩
theorem alloc (h : Apart lo hi A B) (o : Obj) : Apart lo hi A (B.alloc o) :=
  h.trans ⟨rfl, rfl, rfl, by simp, fun k hk _ => Below.heap_alloc _ _ _ hk⟩
theorem setCell (h : Apart lo hi A B) {a : Addr} (h1 : lo ≤ a.block) (h2 : a.block < hi) (v : Value) : Apart lo hi A (B.setCell a v) :=
  h.trans ⟨rfl, rfl, rfl, by simp [World.setCell], fun k _ ho => Below.heap_setCell _ _ _ _ (by omega)⟩
theorem putObj (h : Apart lo hi A B) {l : Nat} (h1 : lo ≤ l) (h2 : l < hi) (o : Obj) : Apart lo hi A (B.putObj l o) :=
  h.trans ⟨rfl, rfl, rfl, by simp, fun k _ ho => World.putObj_heap_other (by omega)⟩
end Apart

theorem cell_alloc_some {W : World} {a : Addr} {v : Value} {o : Obj} (h : W.cell? a = some v) : (W.alloc o).cell? a = some v := by
  rw [← h]
  exact World.cell?_of_block (Below.heap_alloc W o a.block (World.block_lt_of_cell? W a h))

/-- A loop's record. -/
def mkRec (fn : FuncId) (tmps : Array Value) (ps : Array Tmp) (assign body : Code) (d : Nat) (st : LoopState) (pe : Option Code) : Loop :=
  { state := st, pending := pe, fn, tmps, params := ps, assign, body, defers := d }

/-- Entering a range over a function, all the witnesses of the kit's law laid. -/
theorem range_enter {P : Program} {g : Operand} {ps : Array Tmp} {assign body : Code} {Q : Exit → Act → World → Prop} {a : Act} {w : World} {gf : Nat} {lb : Array Value}
    (hg : a.eval g = .func (.func gf) #[] lb) (eg : ∀ args w, (callFunc gf args).run P w = .ok (.enter gf args) w)
    (h : ∀ fn (rec : LoopState → Option Code → Loop), Hid (rec = mkRec fn a.tmps ps assign body w.heap.size) → CallsIn Fence.wide 0 P gf (#[.func (.yield (w.heap.size + 1)) #[] #[]] ++ lb)
      ((w.alloc (.deferred (some []))).alloc (.loop (rec .ready none)))
      (rangePost Fence.wide 0 P (w.heap.size + 1) Q { a with defers := { target := .collected w.heap.size, args := #[] } :: a.defers })) :
    (Code.rangeFunc g ps assign body).wpIn Fence.wide 0 P Q a w := by
  refine wpIn_rangeFunc fun fn _ => ?_
  have hc := h fn (mkRec fn a.tmps ps assign body w.heap.size) rfl
  obtain ⟨W1, hW1⟩ : ∃ W1, (w.alloc (.deferred (some []))).alloc (.loop (mkRec fn a.tmps ps assign body w.heap.size .ready none)) = W1 := ⟨_, rfl⟩
  rw [hW1] at hc
  refine ⟨w.heap.size + 1, [{ target := .collected w.heap.size, args := #[] }], W1, { target := .fn (.func gf) lb, args := #[.func (.yield (w.heap.size + 1)) #[] #[]] }, W1, gf,
    #[.func (.yield (w.heap.size + 1)) #[] #[]] ++ lb, W1, ?_, ?_, ?_, ?_, ?_, ?_⟩
  · rw [← hW1]; exact run_enterLoop_outer _ _ _ _ _
  · simp only [resolve, hg]
    simp [go_sem]
  · exact fun _ _ => trivial
  · simp [invoke, go_sem, eg]
  · exact fun h => by cases h
  · exact hc

/-- How a round's body may be left, and what the record then says. -/
def endPost (l : Nat) (rec : LoopState → Option Code → Loop) (R : Ending → World → Prop) : Exit → Act → World → Prop
  | .normal, _, w => w.heap[l]? = some (.loop (rec .busy none)) ∧ R (.returned (.bool true)) (w.putObj l (.loop (rec .ready none)))
  | .ret, _, w => w.heap[l]? = some (.loop (rec .busy none)) ∧ R (.returned (.bool false)) (w.putObj l (.loop (rec .done (some .ret))))
  | .exit id, _, w => w.heap[l]? = some (.loop (rec .busy none)) ∧ R (.returned (.bool false)) (w.putObj l (.loop (rec .done (some (.exit id)))))
  | _, _, _ => False

theorem round_at {P : Program} {V : World} {l : Nat} {rec : LoopState → Option Code → Loop} {fn : FuncId} {tmps : Array Value} {ps : Array Tmp} {assign body : Code} {d : Nat} {args : Array Value} {R : Ending → World → Prop}
    (hrec : Hid (rec = mkRec fn tmps ps assign body d)) (hl : V.heap[l]? = some (.loop (rec .ready none))) (hs : args.size = ps.size)
    (h : assign.wpIn (Fence.wide.inRound l) 0 P (Exit.then (fun a₁ w₁ => w₁.heap[l]? = some (.loop (rec .ready none)) ∧ body.wpIn (Fence.wide.inRound l) 0 P (endPost l rec R) a₁ (w₁.putObj l (.loop (rec .busy none)))) (fun _ _ _ => False))
      { tmps := (ps.zip args).foldl (fun t (p, v) => t.setIfInBounds p v) tmps, defers := [] } V) :
    YieldAt Fence.wide 0 P l args V R := by
  have hrec' : rec = mkRec fn tmps ps assign body d := hrec
  subst hrec'
  refine ⟨fn, _, assign, body, run_yield (P := P) (args := args) hl hs, roundIn_of_wpIn trivial (wpIn_mono h ?_)⟩
  intro e a₁ w₁ hq
  cases e with
  | normal =>
    obtain ⟨h1, h2⟩ := hq
    refine ⟨_, run_beginRound h1 rfl, wpIn_mono h2 ?_⟩
    intro e2 a2 w2 hq2
    cases e2 with
    | normal => exact ⟨_, _, run_endRound none hq2.1, hq2.2⟩
    | ret => exact ⟨_, _, run_endRound (some .ret) hq2.1, hq2.2⟩
    | exit id => exact ⟨_, _, run_endRound (some (.exit id)) hq2.1, hq2.2⟩
    | goto t => exact hq2.elim
    | panic ch => exact hq2.elim
    | outgrown => exact hq2.elim
  | ret => exact hq.elim
  | exit id => exact hq.elim
  | goto t => exact hq.elim
  | panic ch => exact hq.elim
  | outgrown => exact hq.elim

/-- Behind the iterator: no round has left. -/
theorem range_done {P : Program} {l : Nat} {rec : LoopState → Option Code → Loop} {fn : FuncId} {tmps : Array Value} {ps : Array Tmp} {assign body : Code} {d : Nat} {Q : Exit → Act → World → Prop} {a' : Act} {v : Value} {W : World}
    (hrec : Hid (rec = mkRec fn tmps ps assign body d)) (hl : W.heap[l]? = some (.loop (rec .ready none))) (h : Q .normal a' (W.putObj l (.loop (rec .exhausted none)))) :
    rangePost Fence.wide 0 P l Q a' (.returned v) W := by
  have hrec' : rec = mkRec fn tmps ps assign body d := hrec
  subst hrec'
  exact ⟨none, _, run_endLoop hl (by simp [mkRec]), h⟩
/-- Behind the iterator: a round has left by the jump c. -/
theorem range_left {P : Program} {l : Nat} {rec : LoopState → Option Code → Loop} {fn : FuncId} {tmps : Array Value} {ps : Array Tmp} {assign body : Code} {d : Nat} {Q : Exit → Act → World → Prop} {a' : Act} {v : Value} {W : World} {c : Code}
    (hrec : Hid (rec = mkRec fn tmps ps assign body d)) (hl : W.heap[l]? = some (.loop (rec .done (some c)))) (h : c.wpIn Fence.wide 0 P Q a' (W.putObj l (.loop (rec .exhausted (some c))))) :
    rangePost Fence.wide 0 P l Q a' (.returned v) W := by
  have hrec' : rec = mkRec fn tmps ps assign body d := hrec
  subst hrec'
  exact ⟨some c, _, run_endLoop hl (by simp [mkRec]), h⟩
end Go.Proofs.Ybulkcglg
