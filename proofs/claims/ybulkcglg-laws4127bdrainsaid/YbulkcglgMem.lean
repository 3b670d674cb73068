import Derived.WalkKit
import Derived.Deep.OwnRows
import Derived.Deep.Draws
namespace Go.Proofs.Ybulkcglg
open Go.RowKit

/-- A block of pairs of integers: element j lies in cells 2j, 2j+1. -/
def pr (f : Nat → Int × Int) (i : Nat) : Value := .int .i64 (if i % 2 = 0 then (f (i / 2)).1 else (f (i / 2)).2)

def Pairs (w : World) (G : Nat) (t : TypeId) (cap : Nat) (f : Nat → Int × Int) : Prop := w.rowIs G t (cap * 2) (pr f)

section
variable {w w' : World} {G : Nat} {t : TypeId} {cap : Nat} {f g : Nat → Int × Int}

theorem pr_even (f : Nat → Int × Int) (j : Nat) : pr f (j * 2) = .int .i64 (f j).1 := by
  unfold pr
  rw [if_pos (by omega), show j * 2 / 2 = j from by omega]
theorem pr_odd (f : Nat → Int × Int) (j : Nat) : pr f (j * 2 + 1) = .int .i64 (f j).2 := by
  unfold pr
  rw [if_neg (by omega), show (j * 2 + 1) / 2 = j from by omega]

theorem Pairs.fst (h : Pairs w G t cap f) {j : Nat} (hj : j < cap) : w.cell? ⟨G, j * 2, none⟩ = some (.int .i64 (f j).1) := by
  rw [World.rowIs.cell h (by omega), pr_even]
theorem Pairs.snd (h : Pairs w G t cap f) {j : Nat} (hj : j < cap) : w.cell? ⟨G, j * 2 + 1, none⟩ = some (.int .i64 (f j).2) := by
  rw [World.rowIs.cell h (by omega), pr_odd]
theorem Pairs.frozen (h : Pairs w G t cap f) (i : Nat) : w.frozen? ⟨G, i, none⟩ = false := World.rowIs.frozen h i
theorem Pairs.lt (h : Pairs w G t cap f) : G < w.heap.size := World.rowIs.lt h
theorem Pairs.congr (h : Pairs w G t cap f) (e : ∀ j, j < cap → f j = g j) : Pairs w G t cap g := by
  refine World.rowIs.congr h fun i hi => ?_
  unfold pr
  rw [e (i / 2) (by omega)]
theorem Pairs.of_block (h : Pairs w G t cap f) (e : w'.heap[G]? = w.heap[G]?) : Pairs w' G t cap f := World.rowIs.of_block h e
theorem Pairs.drew (h : Pairs w G t cap f) : Pairs w.drew G t cap f := h
theorem Pairs.setOther (h : Pairs w G t cap f) {a : Addr} (ha : G ≠ a.block) (v : Value) : Pairs (w.setCell a v) G t cap f := World.rowIs.setOther h ha v
theorem Pairs.set (h : Pairs w G t cap f) (j : Nat) (a b : Int) :
    Pairs ((w.setCell ⟨G, j * 2, none⟩ (.int .i64 a)).setCell ⟨G, j * 2 + 1, none⟩ (.int .i64 b)) G t cap (fun i => if i = j then (a, b) else f i) := by
  have h2 := World.rowIs.set (World.rowIs.set h (j * 2) (.int .i64 a)) (j * 2 + 1) (.int .i64 b)
  refine World.rowIs.congr h2 fun i hi => ?_
  by_cases e1 : i = j * 2 + 1
  · subst e1
    simp [pr_odd]
  · by_cases e0 : i = j * 2
    · subst e0
      simp [pr_even]
    · rw [if_neg e1, if_neg e0]
      have e2 : ¬ i / 2 = j := by omega
      simp only [pr, if_neg e2]
end

/-- What a call may have done to memory: new blocks, and writes to the blocks of S alone. -/
structure Touch (S : List Nat) (w w' : World) : Prop where
  os : w'.os = w.os
  tape : w'.tape = w.tape
  output : w'.output = w.output
  size : w.heap.size ≤ w'.heap.size
  block : ∀ k, k < w.heap.size → k ∉ S → w'.heap[k]? = w.heap[k]?

namespace Touch
variable {S : List Nat} {w w' w'' : World}
theorem refl (S : List Nat) (w : World) : Touch S w w := ⟨rfl, rfl, rfl, Nat.le_refl _, fun _ _ _ => rfl⟩
theorem trans (h : Touch S w w') (k : Touch S w' w'') : Touch S w w'' :=
  ⟨k.os.trans h.os, k.tape.trans h.tape, k.output.trans h.output, Nat.le_trans h.size k.size, fun i hi hn => (k.block i (Nat.lt_of_lt_of_le hi h.size) hn).trans (h.block i hi hn)⟩
theorem mono {T : List Nat} (h : Touch S w w') (hs : ∀ x, x ∈ S → x ∈ T) : Touch T w w' := ⟨h.os, h.tape, h.output, h.size, fun k hk hn => h.block k hk (fun e => hn (hs k e))⟩
theorem drew (h : Touch S w w') : Touch S w w'.drew := ⟨h.os, h.tape, h.output, h.size, h.block⟩
theorem alloc (h : Touch S w w') (o : Obj) : Touch S w (w'.alloc o) :=
  h.trans ⟨rfl, rfl, rfl, by simp, fun k hk _ => Below.heap_alloc _ _ _ hk⟩
theorem setCell (h : Touch S w w') {a : Addr} (ha : a.block ∈ S) (v : Value) : Touch S w (w'.setCell a v) :=
  h.trans ⟨rfl, rfl, rfl, by simp [World.setCell], fun k _ hn => Below.heap_setCell _ _ _ _ (fun e => hn (e ▸ ha))⟩
theorem setCellNew (h : Touch S w w') {a : Addr} (ha : w.heap.size ≤ a.block) (v : Value) : Touch S w (w'.setCell a v) :=
  ⟨h.os, h.tape, h.output, Nat.le_trans h.size (by simp [World.setCell]), fun k hk hn => (Below.heap_setCell _ _ _ _ (by omega)).trans (h.block k hk hn)⟩
theorem drewN (h : Touch S w w') : ∀ n, Touch S w (w'.drewN n)
  | 0 => h
  | n + 1 => by
    have : Touch S w' (w'.drewN (n + 1)) := ⟨rfl, rfl, rfl, Nat.le_refl _, fun _ _ _ => rfl⟩
    exact h.trans this
/-- Old memory, below B, untouched, if all of S lies from B on. -/
theorem below {B : Nat} (h : Touch S w w') (hB : B ≤ w.heap.size) (hs : ∀ x ∈ S, B ≤ x) : Below B w w' :=
  ⟨h.os, h.tape, h.output, h.size, fun k hk => h.block k (by omega) (fun e => by have := hs k e; omega)⟩
theorem cell (h : Touch S w w') {p : Addr} (hp : p.block < w.heap.size) (hn : p.block ∉ S) : w'.cell? p = w.cell? p := World.cell?_of_block (w := w) (h.block p.block hp hn)
theorem frozen (h : Touch S w w') {p : Addr} (hp : p.block < w.heap.size) (hn : p.block ∉ S) : w'.frozen? p = w.frozen? p := World.frozen?_of_block (w := w) (h.block p.block hp hn)
theorem rowIs {b : Nat} {t : TypeId} {n : Nat} {f : Nat → Value} (h : Touch S w w') (hr : w.rowIs b t n f) (hn : b ∉ S) : w'.rowIs b t n f := hr.of_block (h.block b hr.lt hn)
theorem pairs {b : Nat} {t : TypeId} {n : Nat} {f : Nat → Int × Int} (h : Touch S w w') (hr : Pairs w b t n f) (hn : b ∉ S) : Pairs w' b t n f := h.rowIs hr hn
end Touch
end Go.Proofs.Ybulkcglg
