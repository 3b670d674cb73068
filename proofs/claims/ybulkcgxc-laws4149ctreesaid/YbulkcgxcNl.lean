import Derived.Test.YbulkcgxcRows
import Derived.WalkKit
import Derived.WalkSpells
import Derived.Deep.OwnRows
import Derived.Deep.LoopGhost
import Derived.Deep.CutRange
namespace Go.Proofs.Ybulkcgxc
open Go.RowKit

theorem hide {p : Prop} (h : p) : Hid p := h
/-- The blocks from B on are as they were. -/
structure Kp (B : Nat) (w w' : World) : Prop where
  size : w.heap.size ≤ w'.heap.size
  block : ∀ k, B ≤ k → k < w.heap.size → w'.heap[k]? = w.heap[k]?
theorem Kp.of_below {B : Nat} {w w' : World} (h : Below w.heap.size w w') : Kp B w w' := ⟨h.size, fun k _ hk => h.block k hk⟩
theorem Kp.trans {B : Nat} {w w1 w2 : World} (h : Kp B w w1) (k : Kp B w1 w2) : Kp B w w2 := ⟨Nat.le_trans h.size k.size, fun i hB hi => (k.block i hB (Nat.lt_of_lt_of_le hi h.size)).trans (h.block i hB hi)⟩
theorem cell_keep {B : Nat} {w w' : World} {a : Addr} {v : Value} (hb : Kp B w w') (hB : B ≤ a.block) (h : w.cell? a = some v) : w'.cell? a = some v := (World.cell?_of_block (hb.block _ hB (World.block_lt_of_cell? w a h))).trans h
theorem cell_below {w w' : World} {a : Addr} {v : Value} (hb : Below w.heap.size w w') (h : w.cell? a = some v) : w'.cell? a = some v := (hb.cell (p := a) (World.block_lt_of_cell? w a h)).trans h
/-- A node, of a block from B on: what newlines reads of it. -/
structure Nd (B : Nat) (w : World) (P op : Nat) (sub rune : Value) (mx : Int) : Prop where
  op : w.cell? ⟨P, 0, none⟩ = some (.int .u8 (op : Int))
  sub : w.cell? ⟨P, 2, none⟩ = some sub
  rune : w.cell? ⟨P, 4, none⟩ = some rune
  mx : w.cell? ⟨P, 8, none⟩ = some (.int .i64 mx)
  base : B ≤ P
theorem Nd.keep {B : Nat} {w w' : World} {P op : Nat} {sub rune : Value} {mx : Int} (h : Nd B w P op sub rune mx) (hb : Kp B w w') : Nd B w' P op sub rune mx :=
  ⟨cell_keep hb h.base h.op, cell_keep hb h.base h.sub, cell_keep hb h.base h.rune, cell_keep hb h.base h.mx, h.base⟩
/-- At the node P newlines answers (n, ok), in this world and in every one that keeps its blocks from B on. -/
def NLS (B : Nat) (w : World) (P : Nat) (n : Int) (ok : Bool) : Prop :=
  ∀ w', Kp B w w' → Calls Yba.prog 6 #[.pointer (some ⟨P, 0, none⟩)] w' fun e w'' => e = .returned (.tuple #[.int .i64 n, .bool ok]) ∧ w'' = w'
theorem NLS.keep {B : Nat} {w w1 : World} {P : Nat} {n : Int} {ok : Bool} (h : NLS B w P n ok) (hb : Kp B w w1) : NLS B w1 P n ok :=
  fun w' hb' => h w' (hb.trans hb')
theorem NLS.below {B : Nat} {w w1 : World} {P : Nat} {n : Int} {ok : Bool} (h : NLS B w P n ok) (hb : Below w.heap.size w w1) : NLS B w1 P n ok := h.keep (.of_below hb)
theorem NLS.mono {B B' : Nat} {w : World} {P : Nat} {n : Int} {ok : Bool} (h : NLS B' w P n ok) (hB : B ≤ B') : NLS B w P n ok :=
  fun w' hb => h w' ⟨hb.size, fun k hk hs => hb.block k (Nat.le_trans hB hk) hs⟩

/-- OpBeginText, OpEndText. -/
theorem nl_text {B : Nat} {w : World} {P op : Nat} {sub rune : Value} {mx : Int} (h : Nd B w P op sub rune mx) (ho : op = 9 ∨ op = 10) : NLS B w P 0 false := by
  intro w' hb
  have hn := h.keep hb
  have c0 := hn.op
  clear hn h hb
  rcases ho with rfl | rfl
  · go_enter Yba.func6, Yba.ntmps6
    go_wp2
    go_ret2
    exact ⟨rfl, rfl⟩
  · go_enter Yba.func6, Yba.ntmps6
    go_wp2
    go_ret2
    exact ⟨rfl, rfl⟩
/-- OpEmptyMatch, OpBeginLine. -/
theorem nl_other {B : Nat} {w : World} {P op : Nat} {sub rune : Value} {mx : Int} (h : Nd B w P op sub rune mx) (ho : op = 2 ∨ op = 7) : NLS B w P 0 true := by
  intro w' hb
  have hn := h.keep hb
  have c0 := hn.op
  clear hn h hb
  rcases ho with rfl | rfl
  · go_enter Yba.func6, Yba.ntmps6
    go_wp2
    go_ret2
    exact ⟨rfl, rfl⟩
  · go_enter Yba.func6, Yba.ntmps6
    go_wp2
    go_ret2
    exact ⟨rfl, rfl⟩
/-- OpAnyChar. -/
theorem nl_any {B : Nat} {w : World} {P : Nat} {sub rune : Value} {mx : Int} (h : Nd B w P 6 sub rune mx) : NLS B w P 1 true := by
  intro w' hb
  have hn := h.keep hb
  have c0 := hn.op
  clear hn h hb
  go_enter Yba.func6, Yba.ntmps6
  go_wp2
  go_ret2
  exact ⟨rfl, rfl⟩
/-- The child of a node. -/
def Kid (B : Nat) (w : World) (sub : Value) (Q : Nat) : Prop := ∃ b c, B ≤ b ∧ sub = .slice (some ⟨b, 0, none⟩) 1 c ∧ w.cell? ⟨b, 0, none⟩ = some (.pointer (some ⟨Q, 0, none⟩))
/-- OpCapture, OpQuest. -/
theorem nl_wrap {B : Nat} {w : World} {P op Q : Nat} {sub rune : Value} {mx n : Int} {ok : Bool} (h : Nd B w P op sub rune mx) (ho : op = 13 ∨ op = 16) (hk : Kid B w sub Q) (hq : NLS B w Q n ok) : NLS B w P n ok := by
  intro w' hb
  have hn := h.keep hb
  have c0 := hn.op
  have c2 := hn.sub
  obtain ⟨b, c, hBb, rfl, k0⟩ := hk
  have k1 := cell_keep (a := ⟨b, 0, none⟩) hb hBb k0
  have HC := hide (hq w' hb)
  clear hn h hb k0 hq
  rcases ho with rfl | rfl
  · go_enter Yba.func6, Yba.ntmps6
    go_wp2_with (go_at_call 6; refine HC.out.mono ?_; rintro _ w9 ⟨rfl, h9⟩; rw [h9]; clear h9)
    go_ret2
    exact ⟨rfl, rfl⟩
  · go_enter Yba.func6, Yba.ntmps6
    go_wp2_with (go_at_call 6; refine HC.out.mono ?_; rintro _ w9 ⟨rfl, h9⟩; rw [h9]; clear h9)
    go_ret2
    exact ⟨rfl, rfl⟩
/-- OpStar, OpPlus. -/
theorem nl_star {B : Nat} {w : World} {P op Q : Nat} {sub rune : Value} {mx n : Int} {ok : Bool} (h : Nd B w P op sub rune mx) (ho : op = 14 ∨ op = 15) (hk : Kid B w sub Q) (hq : NLS B w Q n ok) : NLS B w P 0 (ok && (n == 0)) := by
  intro w' hb
  have hn := h.keep hb
  have c0 := hn.op
  have c2 := hn.sub
  obtain ⟨b, c, hBb, rfl, k0⟩ := hk
  have k1 := cell_keep (a := ⟨b, 0, none⟩) hb hBb k0
  have HC := hide (hq w' hb)
  clear hn h hb k0 hq
  rcases (show ok = false ∨ (ok = true ∧ n = 0) ∨ (ok = true ∧ ¬ n = 0) from by cases ok <;> simp; exact Decidable.em _) with rfl | ⟨rfl, rfl⟩ | ⟨rfl, hn⟩
  · rcases ho with rfl | rfl
    · go_enter Yba.func6, Yba.ntmps6
      go_wp2_with (go_at_call 6; refine HC.out.mono ?_; rintro _ w9 ⟨rfl, h9⟩; rw [h9]; clear h9)
      go_ret2
      exact ⟨rfl, rfl⟩
    · go_enter Yba.func6, Yba.ntmps6
      go_wp2_with (go_at_call 6; refine HC.out.mono ?_; rintro _ w9 ⟨rfl, h9⟩; rw [h9]; clear h9)
      go_ret2
      exact ⟨rfl, rfl⟩
  · rcases ho with rfl | rfl
    · go_enter Yba.func6, Yba.ntmps6
      go_wp2_with (go_at_call 6; refine HC.out.mono ?_; rintro _ w9 ⟨rfl, h9⟩; rw [h9]; clear h9)
      go_ret2
      exact ⟨rfl, rfl⟩
    · go_enter Yba.func6, Yba.ntmps6
      go_wp2_with (go_at_call 6; refine HC.out.mono ?_; rintro _ w9 ⟨rfl, h9⟩; rw [h9]; clear h9)
      go_ret2
      exact ⟨rfl, rfl⟩
  · have e1 : (n == 0) = false := by simpa using hn
    rw [e1]
    rcases ho with rfl | rfl
    · go_enter Yba.func6, Yba.ntmps6
      go_wp2_with (go_at_call 6; refine HC.out.mono ?_; rintro _ w9 ⟨rfl, h9⟩; rw [h9]; clear h9)
      go_ret2
      exact ⟨rfl, rfl⟩
    · go_enter Yba.func6, Yba.ntmps6
      go_wp2_with (go_at_call 6; refine HC.out.mono ?_; rintro _ w9 ⟨rfl, h9⟩; rw [h9]; clear h9)
      go_ret2
      exact ⟨rfl, rfl⟩
end Go.Proofs.Ybulkcgxc
