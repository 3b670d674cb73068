import Derived.Test.YbulkcgnkBuild
import Derived.Test.YbulkcgnkRepeat
namespace Go.Proofs.Ybulkcgnk
open Go.RowKit

/-- The rows of the side that is searched. -/
def adjF (E : List (Nat × Nat)) (fwd : Bool) (y : Nat) : List Nat := adjA E (4 + 2 * y + if fwd then 0 else 1)
theorem adjF_adj {p : Nat} {E : List (Nat × Nat)} (fwd : Bool) (hE : ∀ e, e ∈ E → e.1 < p ∧ e.2 < p) : Adj p E fwd (adjF E fwd) := by
  cases fwd
  · exact (adj_of p E hE).2
  · exact (adj_of p E hE).1

/-- What the search reads of the graph. -/
structure RD (w : World) (n p G : Nat) (E : List (Nat × Nat)) (fwd : Bool) (g0 c0 g1 c1 : Nat) : Prop where
  nodes : w.cell? ⟨G, 0, none⟩ = some (.int .i64 (n : Int))
  succ : w.cell? ⟨G, 1, none⟩ = some (.slice (some ⟨g0, 0, none⟩) p c0)
  pred : w.cell? ⟨G, 2, none⟩ = some (.slice (some ⟨g1, 0, none⟩) p c1)
  rows : ∀ y, y < p → ∃ ay cy, w.cell? ⟨if fwd then g0 else g1, y, none⟩ = some (.slice ay (adjF E fwd y).length cy) ∧ ∀ (j x : Nat), (adjF E fwd y)[j]? = some x → ∃ g, ay = some ⟨g, 0, none⟩ ∧ w.cell? ⟨g, j, none⟩ = some (.int .i64 (x : Int))
theorem rd_of {B G n p : Nat} {w : World} {V : Nat → Value} {E : List (Nat × Nat)} (h : GS B G w n (fun _ => p) V (adjA E)) (hp : 0 < p) (fwd : Bool) : ∃ g0 c0 g1 c1, RD w n p G E fwd g0 c0 g1 c1 := by
  obtain ⟨g0, c0, e0, _, _, r0, _⟩ := h.topForm (s := 0) (by omega) hp
  obtain ⟨g1, c1, e1, _, _, r1, _⟩ := h.topForm (s := 1) (by omega) hp
  obtain ⟨a0, a1, a2, _⟩ := g_cell h
  refine ⟨g0, c0, g1, c1, a0, e0 ▸ a1, e1 ▸ a2, fun y hy => ?_⟩
  obtain ⟨ay, cy, ea, _, hc⟩ := owns_form (h.row (4 + 2 * y + if fwd then 0 else 1) (by omega))
  refine ⟨ay, cy, ?_, fun j x hx => ?_⟩
  · have e : adjF E fwd y = adjA E (4 + 2 * y + if fwd then 0 else 1) := rfl
    rw [e, ← ea]
    cases fwd
    · exact r1 y hy
    · exact r0 y hy
  · obtain ⟨g, hg, _, _, hcell⟩ := hc j _ (vals_get hx)
    exact ⟨g, hg, hcell⟩
theorem RD.below {w w' : World} {n p G g0 c0 g1 c1 : Nat} {E : List (Nat × Nat)} {fwd : Bool} (h : RD w n p G E fwd g0 c0 g1 c1) (hb : Below w.heap.size w w') : RD w' n p G E fwd g0 c0 g1 c1 := by
  have key : ∀ a v, w.cell? a = some v → w'.cell? a = some v := fun a v hv => (hb.cell (p := a) (World.block_lt_of_cell? w a hv)).trans hv
  refine ⟨key _ _ h.nodes, key _ _ h.succ, key _ _ h.pred, fun y hy => ?_⟩
  obtain ⟨ay, cy, h1, h2⟩ := h.rows y hy
  refine ⟨ay, cy, key _ _ h1, fun j x hx => ?_⟩
  obtain ⟨g, hg, hc⟩ := h2 j x hx
  exact ⟨g, hg, key _ _ hc⟩

/-- The search's own memory: the distances in block d, the layer at hand, the next layer. -/
structure DS (w W : World) (d p : Nat) (r : Nat → Int) (lv nv : Value) (Ly Nx : List Nat) : Prop where
  row : W.rowIs d 3 p (ints r)
  ly : W.ownsRow w.heap.size 3 1 lv Ly.length (vals Ly)
  nx : W.ownsRow w.heap.size 3 1 nv Nx.length (vals Nx)
  dl : lv.ownBlock ≠ some d
  dn : nv.ownBlock ≠ some d
  ln : ∀ g, lv.ownBlock = some g → nv.ownBlock ≠ some g
  db : w.heap.size ≤ d
  bel : Below w.heap.size w W

section
variable {w W W1 : World} {d p : Nat} {r : Nat → Int} {lv nv : Value} {Ly Nx : List Nat}
theorem DS.set (h : DS w W d p r lv nv Ly Nx) (x : Nat) (c : Int) : DS w (W.setCell ⟨d, x, none⟩ (.int .i64 c)) d p (updI r x c) lv nv Ly Nx :=
  ⟨ints_upd h.row x c, owns_set h.ly h.dl _, owns_set h.nx h.dn _, h.dl, h.dn, h.ln, h.db, h.bel.setCell (p := ⟨d, x, none⟩) h.db _⟩
theorem DS.alloc (h : DS w W d p r lv nv Ly Nx) (o : Obj) : DS w (W.alloc o) d p r lv nv Ly Nx :=
  ⟨h.row.alloc o, h.ly.alloc o, h.nx.alloc o, h.dl, h.dn, h.ln, h.db, h.bel.alloc h.bel.size o⟩
theorem row_grown {row : Option Nat} (h : W.rowIs d 3 p (ints r)) (hg : W.grownBy W1 row) (hne : row ≠ some d) : W1.rowIs d 3 p (ints r) :=
  h.of_block (hg.block d h.lt (fun e => hne e.symm))
theorem bel_grown {row : Option Nat} (h : Below w.heap.size w W) (hg : W.grownBy W1 row) (hr : ∀ k, row = some k → w.heap.size ≤ k) : Below w.heap.size w W1 :=
  ⟨hg.os.trans h.os, hg.tape.trans h.tape, hg.output.trans h.output, Nat.le_trans h.size hg.size, fun k hk => (hg.block k (Nat.lt_of_lt_of_le hk h.size) (fun e => by have := hr k e.symm; omega)).trans (h.block k hk)⟩
theorem DS.pushL (h : DS w W d p r lv nv Ly Nx) {g c H x L : Nat} (hL : Ly.length = L) (ho : W1.ownsRow w.heap.size 3 1 (.slice (some ⟨g, 0, none⟩) (L + 1) c) (L + 1) (vals Ly ++ [.int .i64 (x : Int)])) (hg : W.grownBy W1 lv.ownBlock) (hat : lv.ownBlock = some g ∨ g = H) (hH : W.heap.size = H) :
    DS w W1 d p r (.slice (some ⟨g, 0, none⟩) (L + 1) c) nv (Ly ++ [x]) Nx := by
  subst hL
  have hgd : g ≠ d := by
    rintro rfl
    rcases hat with e | e
    · exact h.dl e
    · have := h.row.lt; omega
  have hgn : nv.ownBlock ≠ some g := by
    intro e'
    rcases hat with e | e
    · exact h.ln g e e'
    · have := (h.nx.lt g e').2; omega
  refine ⟨row_grown h.row hg h.dl, by rw [vals_snoc]; simpa using ho, h.nx.kept hg ?_, by simp [Value.ownBlock]; exact hgd, h.dn, fun k hk => ?_, h.db, bel_grown h.bel hg fun k hk => (h.ly.lt k hk).1⟩
  · cases hv : nv.ownBlock with
    | none => exact .inl rfl
    | some b => exact .inr fun e => h.ln b e.symm hv
  · simp [Value.ownBlock] at hk; subst hk; exact hgn
theorem DS.pushN (h : DS w W d p r lv nv Ly Nx) {g c H x L : Nat} (hL : Nx.length = L) (ho : W1.ownsRow w.heap.size 3 1 (.slice (some ⟨g, 0, none⟩) (L + 1) c) (L + 1) (vals Nx ++ [.int .i64 (x : Int)])) (hg : W.grownBy W1 nv.ownBlock) (hat : nv.ownBlock = some g ∨ g = H) (hH : W.heap.size = H) :
    DS w W1 d p r lv (.slice (some ⟨g, 0, none⟩) (L + 1) c) Ly (Nx ++ [x]) := by
  subst hL
  have hgd : g ≠ d := by
    rintro rfl
    rcases hat with e | e
    · exact h.dn e
    · have := h.row.lt; omega
  have hgl : lv.ownBlock ≠ some g := by
    intro e'
    rcases hat with e | e
    · exact h.ln g e' e
    · have := (h.ly.lt g e').2; omega
  refine ⟨row_grown h.row hg h.dn, h.ly.kept hg ?_, by rw [vals_snoc]; simpa using ho, h.dl, by simp [Value.ownBlock]; exact hgd, fun k hk => ?_, h.db, bel_grown h.bel hg fun k hk => (h.nx.lt k hk).1⟩
  · cases hv : lv.ownBlock with
    | none => exact .inl rfl
    | some b => exact .inr fun e => h.ln b hv e.symm
  · simp [Value.ownBlock]; rintro rfl; exact hgl hk
theorem DS.turn (h : DS w W d p r lv nv Ly Nx) : DS w W d p r nv (.slice none 0 0) Nx [] :=
  ⟨h.row, h.nx, World.ownsRow_nil _ _ _ _, h.dn, by simp [Value.ownBlock], fun g _ => by simp [Value.ownBlock], h.db, h.bel⟩
theorem ds_start {o : Obj} {v : Nat} (h : W.rowIs (w.heap.size + 1) 3 p (ints fun _ => -1)) (hb : Below (w.heap.size + 1) (w.alloc o) W) :
    DS w ((W.setCell ⟨w.heap.size + 1, v, none⟩ (.int .i64 0)).alloc (.cells #[.int .i64 (v : Int)] 3)) (w.heap.size + 1) p (updI (fun _ => -1) v 0) (.slice (some ⟨W.heap.size, 0, none⟩) 1 1) (.slice none 0 0) [v] [] := by
  have hsz : w.heap.size + 1 < W.heap.size := h.lt
  have hB : Below w.heap.size w W := by
    have h0 : Below w.heap.size w (w.alloc o) := (Below.refl _ _).alloc (Nat.le_refl _) o
    refine ⟨hb.os.trans h0.os, hb.tape.trans h0.tape, hb.output.trans h0.output, Nat.le_trans h0.size hb.size, fun k hk => (hb.block k (by omega)).trans (h0.block k hk)⟩
  refine ⟨(ints_upd h v 0).alloc _, ?_, World.ownsRow_nil _ _ _ _, ?_, by simp [Value.ownBlock], fun g _ => by simp [Value.ownBlock], by omega, ?_⟩
  · have := World.ownsRow_lit (base := w.heap.size) (e := 3) (size := 1) (W.setCell ⟨w.heap.size + 1, v, none⟩ (.int .i64 0)) #[.int .i64 (v : Int)] 1 (by simp; omega) (by unfold maxLen; omega) (by simp)
    simpa [vals] using this
  · simp [Value.ownBlock]; omega
  · exact (hB.setCell (p := ⟨w.heap.size + 1, v, none⟩) (by simp) _).alloc (by simp; omega) _
end
end Go.Proofs.Ybulkcgnk
