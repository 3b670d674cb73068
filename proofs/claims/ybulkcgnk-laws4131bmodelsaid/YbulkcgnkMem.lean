import Derived.WalkKit
import Derived.Deep.OwnRows
import Derived.Deep.Draws
namespace Go.Proofs.Ybulkcgnk
open Go.RowKit

/-- What a call may have done to memory: new blocks, and writes to the blocks of S alone. -/
structure Touch (S : List Nat) (w w' : World) : Prop where
  os : w'.os = w.os
  tape : w'.tape = w.tape
  output : w'.output = w.output
  size : w.heap.size ≤ w'.heap.size
  block : ∀ k, k < w.heap.size → k ∉ S → w'.heap[k]? = w.heap[k]?

namespace Touch
variable {S : List Nat} {w w' w'' : World}
theorem refl (S : List Nat) (w : World) : Touch S w w := ⟨rfl, rfl, rfl, Nat.le_refl _, fun _ _ _ => rfl⟩
theorem trans (h : Touch S w w') (k : Touch S w' w'') : Touch S w w'' :=
  ⟨k.os.trans h.os, k.tape.trans h.tape, k.output.trans h.output, Nat.le_trans h.size k.size, fun i hi hn => (k.block i (Nat.lt_of_lt_of_le hi h.size) hn).trans (h.block i hi hn)⟩
theorem mono {T : List Nat} (h : Touch S w w') (hs : ∀ x, x ∈ S → x ∈ T) : Touch T w w' := ⟨h.os, h.tape, h.output, h.size, fun k hk hn => h.block k hk (fun e => hn (hs k e))⟩
theorem drew (h : Touch S w w') : Touch S w w'.drew := ⟨h.os, h.tape, h.output, h.size, h.block⟩
theorem alloc (h : Touch S w w') (o : Obj) : Touch S w (w'.alloc o) :=
  h.trans ⟨rfl, rfl, rfl, by simp, fun k hk _ => Below.heap_alloc _ _ _ hk⟩
theorem setCell (h : Touch S w w') {a : Addr} (ha : a.block ∈ S) (v : Value) : Touch S w (w'.setCell a v) :=
  h.trans ⟨rfl, rfl, rfl, by simp [World.setCell], fun k _ hn => Below.heap_setCell _ _ _ _ (fun e => hn (e ▸ ha))⟩
theorem setCellNew (h : Touch S w w') {a : Addr} (ha : w.heap.size ≤ a.block) (v : Value) : Touch S w (w'.setCell a v) :=
  ⟨h.os, h.tape, h.output, Nat.le_trans h.size (by simp [World.setCell]), fun k hk hn => (Below.heap_setCell _ _ _ _ (by omega)).trans (h.block k hk hn)⟩
theorem drewN (h : Touch S w w') : ∀ n, Touch S w (w'.drewN n)
  | 0 => h
  | n + 1 => by
    have : Touch S w' (w'.drewN (n + 1)) := ⟨rfl, rfl, rfl, Nat.le_refl _, fun _ _ _ => rfl⟩
    exact h.trans this
/-- Old memory, below B, untouched, if all of S lies from B on. -/
theorem below {B : Nat} (h : Touch S w w') (hB : B ≤ w.heap.size) (hs : ∀ x ∈ S, B ≤ x) : Below B w w' :=
  ⟨h.os, h.tape, h.output, h.size, fun k hk => h.block k (by omega) (fun e => by have := hs k e; omega)⟩
theorem cell (h : Touch S w w') {p : Addr} (hp : p.block < w.heap.size) (hn : p.block ∉ S) : w'.cell? p = w.cell? p := World.cell?_of_block (w := w) (h.block p.block hp hn)
theorem frozen (h : Touch S w w') {p : Addr} (hp : p.block < w.heap.size) (hn : p.block ∉ S) : w'.frozen? p = w.frozen? p := World.frozen?_of_block (w := w) (h.block p.block hp hn)
theorem rowIs {b : Nat} {t : TypeId} {n : Nat} {f : Nat → Value} (h : Touch S w w') (hr : w.rowIs b t n f) (hn : b ∉ S) : w'.rowIs b t n f := hr.of_block (h.block b hr.lt hn)
end Touch
end Go.Proofs.Ybulkcgnk

