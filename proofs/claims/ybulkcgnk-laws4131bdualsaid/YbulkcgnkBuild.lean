import Derived.Test.YbulkcgnkAdd
namespace Go.Proofs.Ybulkcgnk
open Go.RowKit
attribute [local go_sem ↓] Go.wp_at_zero Go.wp_at_succ

/-! ### The adjacency of a list of edges, by the tags -/
def adjA (E : List (Nat × Nat)) (t : Nat) : List Nat :=
  if t < 2 then [] else if t = 2 then E.map (·.1) else if t = 3 then E.map (·.2) else
  if t % 2 = 0 then (E.filter fun e => e.1 = (t - 4) / 2).map (·.2) else (E.filter fun e => e.2 = (t - 5) / 2).map (·.1)
theorem adjA_nil : adjA [] = fun _ => [] := by funext t; simp [adjA]
theorem adjA_len (E : List (Nat × Nat)) (t : Nat) : (adjA E t).length ≤ E.length := by
  unfold adjA
  split
  · simp
  · split
    · simp
    · split
      · simp
      · split
        · simp; exact List.length_filter_le _ _
        · simp; exact List.length_filter_le _ _
theorem adjA_snoc (E : List (Nat × Nat)) (a b : Nat) :
    updN (updN (updN (updN (adjA E) (4 + 2 * a + 0) (adjA E (4 + 2 * a + 0) ++ [b])) (4 + 2 * b + 1) (adjA E (4 + 2 * b + 1) ++ [a])) 2 (adjA E 2 ++ [a])) 3 (adjA E 3 ++ [b]) = adjA (E ++ [(a, b)]) := by
  funext t
  by_cases h3 : t = 3
  · subst h3; rw [updN_same]; simp [adjA]
  rw [updN_other _ _ h3]
  by_cases h2 : t = 2
  · subst h2; rw [updN_same]; simp [adjA]
  rw [updN_other _ _ h2]
  by_cases hb : t = 4 + 2 * b + 1
  · subst hb; rw [updN_same]
    have e1 : ¬ (4 + 2 * b + 1 < 2) := by omega
    have e4 : ¬ ((4 + 2 * b + 1) % 2 = 0) := by omega
    have e5 : (4 + 2 * b + 1 - 5) / 2 = b := by omega
    simp only [adjA, if_neg e1, if_neg h2, if_neg h3, if_neg e4, e5]
    simp
  rw [updN_other _ _ hb]
  by_cases ha : t = 4 + 2 * a + 0
  · subst ha; rw [updN_same]
    have e1 : ¬ (4 + 2 * a + 0 < 2) := by omega
    have e4 : (4 + 2 * a + 0) % 2 = 0 := by omega
    have e5 : (4 + 2 * a + 0 - 4) / 2 = a := by omega
    simp only [adjA, if_neg e1, if_neg h2, if_neg h3, if_pos e4, e5]
    simp
  rw [updN_other _ _ ha]
  unfold adjA
  split
  · rfl
  · split
    · have : ¬ (a = (t - 4) / 2) := by omega
      simp [this]
    · have : ¬ (b = (t - 5) / 2) := by omega
      simp [this]
theorem adj_of (p : Nat) (E : List (Nat × Nat)) (hE : ∀ e, e ∈ E → e.1 < p ∧ e.2 < p) : Adj p E true (fun x => adjA E (4 + 2 * x + 0)) ∧ Adj p E false (fun x => adjA E (4 + 2 * x + 1)) := by
  refine ⟨⟨fun y hy x => ?_, hE⟩, ⟨fun y hy x => ?_, hE⟩⟩
  · have e1 : ¬ (4 + 2 * y + 0 < 2) := by omega
    have e2 : ¬ (4 + 2 * y + 0 = 2) := by omega
    have e3 : ¬ (4 + 2 * y + 0 = 3) := by omega
    have e4 : (4 + 2 * y + 0) % 2 = 0 := by omega
    have e5 : (4 + 2 * y + 0 - 4) / 2 = y := by omega
    simp only [adjA, if_neg e1, if_neg e2, if_neg e3, if_pos e4, e5, edg]
    simp
  · have e1 : ¬ (4 + 2 * y + 1 < 2) := by omega
    have e2 : ¬ (4 + 2 * y + 1 = 2) := by omega
    have e3 : ¬ (4 + 2 * y + 1 = 3) := by omega
    have e4 : ¬ ((4 + 2 * y + 1) % 2 = 0) := by omega
    have e5 : (4 + 2 * y + 1 - 5) / 2 = y := by omega
    simp only [adjA, if_neg e1, if_neg e2, if_neg e3, if_neg e4, e5, edg]
    simp

/-- The edges, as the argument has them. -/
def InE (w : World) (a : Option Addr) (len : Nat) (f : Nat → Nat × Nat) : Prop :=
  ∀ j, j < len → ∃ b off, a = some ⟨b, off, none⟩ ∧ (f j).1 < 65536 ∧ (f j).2 < 65536 ∧ w.cell? ⟨b, off + j * 2, none⟩ = some (.int .u16 ((f j).1 : Int)) ∧ w.cell? ⟨b, off + j * 2 + 1, none⟩ = some (.int .u16 ((f j).2 : Int))
def Eof (f : Nat → Nat × Nat) (p : Nat) (len : Nat) : List (Nat × Nat) := (List.range len).map fun j => ((f j).1 % p, (f j).2 % p)
theorem Eof_succ (f : Nat → Nat × Nat) (p k : Nat) : Eof f p (k + 1) = Eof f p k ++ [((f k).1 % p, (f k).2 % p)] := by simp [Eof, List.range_succ]
theorem Eof_lt {f : Nat → Nat × Nat} {p len : Nat} (hp : 0 < p) : ∀ e, e ∈ Eof f p len → e.1 < p ∧ e.2 < p := by
  intro e he
  simp [Eof] at he
  obtain ⟨j, _, rfl⟩ := he
  exact ⟨Nat.mod_lt _ hp, Nat.mod_lt _ hp⟩
theorem Eof_len (f : Nat → Nat × Nat) (p len : Nat) : (Eof f p len).length = len := by simp [Eof]

theorem make_cap (W : World) (p : Nat) (h : p ≤ 1024) : (Instr.makeSlice 25 (.int .i64 0) (.int .i64 (p : Int))).run Yba.prog W = .ok (.slice (some ⟨W.heap.size, 0, none⟩) 0 p) (W.alloc (.cells (madeCells #[.int .i64 0] p) 3)) := by
  obtain ⟨i0, hi, hz0, hz1, hz2⟩ := info_parts info3
  have := run_make (P := Yba.prog) W 25 3 i0 _ Yba.underlying25 hi hz0 .i64 .i64 0 p (by omega) (by omega) (by rw [hz2]; omega) (by omega)
  simpa [Value.cells, hz1] using this
/-- An empty row for one of the ends. -/
theorem GS.give {B G n t q : Nat} {W : World} {P : Nat → Nat} {V : Nat → Value} {A : Nat → List Nat} (h : GS B G W n P V A) (ht : t = 2 ∨ t = 3) (hA : A t = []) (hv : V t = .slice none 0 0) (hq : q ≤ 1024) :
    GS B G (W.alloc (.cells (madeCells #[.int .i64 0] q) 3)) n P (updN V t (.slice (some ⟨W.heap.size, 0, none⟩) 0 q)) A := by
  have h' := h.alloc (.cells (madeCells #[.int .i64 0] q) 3)
  have e4 : ∀ x s, updN V t (.slice (some ⟨W.heap.size, 0, none⟩) 0 q) (4 + 2 * x + s) = V (4 + 2 * x + s) := fun x s => updN_other _ _ (by omega)
  refine ⟨fun s' hs' => ?_, fun t' ht' => ?_, h.injU rfl (.inr rfl) rfl, ?_, fun s' x' hs' hx' => ?_, h.base⟩
  · rw [updN_other _ _ (show s' ≠ t by omega)]
    simp only [e4]
    exact h'.top s' hs'
  · by_cases e : t' = t
    · subst e
      rw [updN_same, hA]
      have hBG : B ≤ W.heap.size := Nat.le_trans h.base (Nat.le_of_lt h.glt)
      exact World.ownsRow_made _ _ _ hBG (by unfold maxLen; omega) (by simp [madeCells])
    · rw [updN_other _ _ e]
      exact h'.row t' ht'
  · rw [h'.g, updN_other _ _ (show 0 ≠ t by omega), updN_other _ _ (show 1 ≠ t by omega)]
  · rw [e4]; exact h.far s' x' hs' hx'

section
variable {B G n a b ta tb L : Nat} {P : Nat → Nat} {V : Nat → Value} {E : List (Nat × Nat)} {v1 v2 : Value} {w9 w10 w11 : World}
theorem b1 (hG : GS B G w9 n P (updN (updN V ta v1) tb v2) (updN (updN (adjA E) ta (adjA E ta ++ [b])) tb (adjA E tb ++ [a]))) (hta : ta = 4 + 2 * a + 0) (htb : tb = 4 + 2 * b + 1) (hL : E.length = L) : w9.ownsRow B 3 1 (V 2) L (vals (adjA E 2)) := by
  have := hG.row 2 (by omega)
  rw [updN_other _ _ (by omega), updN_other _ _ (by omega), updN_other _ _ (by omega), updN_other _ _ (by omega)] at this
  have e : (adjA E 2).length = L := by simp [adjA, hL]
  rw [e] at this
  exact this
theorem b2 {g c H : Nat} {o : Obj} (hG : GS B G w9 n P (updN (updN V ta v1) tb v2) (updN (updN (adjA E) ta (adjA E ta ++ [b])) tb (adjA E tb ++ [a]))) (hta : ta = 4 + 2 * a + 0) (htb : tb = 4 + 2 * b + 1) (hL : E.length = L)
    (ho : w10.ownsRow B 3 1 (.slice (some ⟨g, 0, none⟩) (L + 1) c) (L + 1) (vals (adjA E 2) ++ [.int .i64 (a : Int)])) (hg : (w9.alloc o).grownBy w10 (V 2).ownBlock) (hat : (V 2).ownBlock = some g ∨ g = H) (hH : w9.heap.size + 1 = H) :
    GS B G w10 n P (updN (updN (updN V ta v1) tb v2) 2 (.slice (some ⟨g, 0, none⟩) (L + 1) c)) (updN (updN (updN (adjA E) ta (adjA E ta ++ [b])) tb (adjA E tb ++ [a])) 2 (adjA E 2 ++ [a])) ∧ w10.ownsRow B 3 1 (V 3) L (vals (adjA E 3)) := by
  have eV : updN (updN V ta v1) tb v2 2 = V 2 := by rw [updN_other _ _ (by omega), updN_other _ _ (by omega)]
  have eA : updN (updN (adjA E) ta (adjA E ta ++ [b])) tb (adjA E tb ++ [a]) 2 = adjA E 2 := by rw [updN_other _ _ (by omega), updN_other _ _ (by omega)]
  have eL : (adjA E 2).length = L := by simp [adjA, hL]
  have h1 := (hG.alloc o).push (W' := w10) (t := 2) (y := a) (g := g) (cap := c) (H := H) (.inl rfl) (by simpa using hH) (by rw [eA, eL]; exact ho) (by rw [eV]; exact hg) (by rw [eV]; exact hat)
  rw [eA, eL] at h1
  refine ⟨h1, ?_⟩
  have := h1.row 3 (by omega)
  rw [updN_other _ _ (by omega), updN_other _ _ (by omega), updN_other _ _ (by omega), updN_other _ _ (by omega), updN_other _ _ (by omega), updN_other _ _ (by omega)] at this
  have e : (adjA E 3).length = L := by simp [adjA, hL]
  rw [e] at this
  exact this
theorem b3 {g c H : Nat} {o : Obj} {s2 : Value} (hG : GS B G w10 n P (updN (updN (updN V ta v1) tb v2) 2 s2) (updN (updN (updN (adjA E) ta (adjA E ta ++ [b])) tb (adjA E tb ++ [a])) 2 (adjA E 2 ++ [a]))) (hta : ta = 4 + 2 * a + 0) (htb : tb = 4 + 2 * b + 1) (hL : E.length = L)
    (ho : w11.ownsRow B 3 1 (.slice (some ⟨g, 0, none⟩) (L + 1) c) (L + 1) (vals (adjA E 3) ++ [.int .i64 (b : Int)])) (hg : (w10.alloc o).grownBy w11 (V 3).ownBlock) (hat : (V 3).ownBlock = some g ∨ g = H) (hH : w10.heap.size + 1 = H) :
    ∃ V', GS B G w11 n P V' (adjA (E ++ [(a, b)])) ∧ s2 = V' 2 ∧ .slice (some ⟨g, 0, none⟩) (L + 1) c = V' 3 := by
  have eV : updN (updN (updN V ta v1) tb v2) 2 s2 3 = V 3 := by rw [updN_other _ _ (by omega), updN_other _ _ (by omega), updN_other _ _ (by omega)]
  have eA : updN (updN (updN (adjA E) ta (adjA E ta ++ [b])) tb (adjA E tb ++ [a])) 2 (adjA E 2 ++ [a]) 3 = adjA E 3 := by rw [updN_other _ _ (by omega), updN_other _ _ (by omega), updN_other _ _ (by omega)]
  have eL : (adjA E 3).length = L := by simp [adjA, hL]
  have h1 := (hG.alloc o).push (W' := w11) (t := 3) (y := b) (g := g) (cap := c) (H := H) (.inr rfl) (by simpa using hH) (by rw [eA, eL]; exact ho) (by rw [eV]; exact hg) (by rw [eV]; exact hat)
  rw [eA, eL] at h1
  subst hta htb
  rw [adjA_snoc] at h1
  exact ⟨_, h1, by rw [updN_other _ _ (by omega), updN_same], by rw [updN_same]⟩
theorem results_tmp5 {fn : Func} {a b c d e : Tmp} (h : fn.results = #[.tmp a, .tmp b, .tmp c, .tmp d, .tmp e]) (tmps : Array Value) (P : Program) (w : World) :
    (results fn tmps).run P w = .ok (.tuple #[tmps.getD a undef, tmps.getD b undef, tmps.getD c undef, tmps.getD d undef, tmps.getD e undef]) w := by
  simp [results, h]
theorem hide {p : Prop} (h : p) : Hid p := h
theorem grown_below {B : Nat} {w W W' : World} {o : Obj} {v : Value} {e m : Nat} {xs : List Value} (hB : Below B w W) (hw : B ≤ W.heap.size) (hown : W.ownsRow B e 1 v m xs) (hg : (W.alloc o).grownBy W' v.ownBlock) : Below B w W' := by
  have hb1 : Below B w (W.alloc o) := hB.alloc hw o
  exact ⟨hg.os.trans hb1.os, hg.tape.trans hb1.tape, hg.output.trans hb1.output, Nat.le_trans hb1.size hg.size, fun k hk => (hg.block k (by simp; omega) (fun e => by have := (hown.lt k e.symm).1; omega)).trans (hb1.block k hk)⟩
end

set_option maxHeartbeats 4000000 in
theorem build_any (w : World) (nd jn len cap : Nat) (a : Option Addr) (f : Nat → Nat × Nat) (h1 : nd < 256) (h2 : jn < 256) (hl : len ≤ 1024) (hE : InE w a len f) :
    Calls Yba.prog 5 #[.int .u8 (nd : Int), .int .u8 (jn : Int), .slice a len cap] w fun e w' =>
      ∃ G V, e = .returned (.tuple #[.pointer (some ⟨G, 0, none⟩), .int .i64 ((nd : Int) + 1), .int .i64 ((nd : Int) + 1 + jn), V 2, V 3]) ∧ GS w.heap.size G w' (nd + 1) (fun _ => nd + 1 + jn) V (adjA (Eof f (nd + 1 + jn) len)) ∧ Below w.heap.size w w' := by
  have HE : Hid (InE w a len f) := hE
  have hw1 : IntKind.i64.wrap (nd : Int) = (nd : Int) := by rw [IntKind.wrap_i64]; omega
  have hw2 : IntKind.i64.wrap (jn : Int) = (jn : Int) := by rw [IntKind.wrap_i64]; omega
  have hw3 : IntKind.i64.wrap ((nd : Int) + 1) = (nd : Int) + 1 := by rw [IntKind.wrap_i64]; omega
  have hw4 : IntKind.i64.wrap ((nd : Int) + 1 + (jn : Int)) = (nd : Int) + 1 + (jn : Int) := by rw [IntKind.wrap_i64]; omega
  have hmk := fun W => make_cap W len hl
  clear hE
  go_enter Yba.func5, Yba.ntmps5
  go_wp2_with (go_at_call 8; refine (new_any _ (nd + 1) (by omega)).mono ?_; rintro _ w1 ⟨G, V1, rfl, hG1, e2, e3, hB1⟩)
  go_loopw [14] (fun s14 wr => ∃ (i : Nat) (V : Nat → Value), i ≤ jn ∧ s14 = .int .i64 i ∧ GS w.heap.size G wr (nd + 1) (fun _ => nd + 1 + i) V (fun _ => []) ∧ V 2 = .slice none 0 0 ∧ V 3 = .slice none 0 0 ∧ Below w.heap.size w wr) (fun s14 _ => jn - (intOf s14).toNat)
  case atStart => exact ⟨0, V1, by omega, rfl, hG1, e2, e3, hB1⟩
  case round =>
    obtain ⟨i, V, hi, rfl, hG, e2, e3, hB⟩ := hrel
    by_cases hij : i < jn
    · have ii : (i : Int) < (jn : Int) := by omega
      have hwi : IntKind.i64.wrap ((i : Int) + 1) = (i : Int) + 1 := by rw [IntKind.wrap_i64]; omega
      have HG : Hid (GS w.heap.size G wr (nd + 1) (fun _ => nd + 1 + i) V (fun _ => []) ∧ V 2 = .slice none 0 0 ∧ V 3 = .slice none 0 0 ∧ Below w.heap.size w wr) := ⟨hG, e2, e3, hB⟩
      clear hG e2 e3 hB
      go_wp2_with (go_at_call 9; refine (junction_any _ _ _ _ _ _ _ HG.out.1 (by omega)).mono ?_; rintro _ w9 ⟨rfl, ⟨V', hG', e2', e3'⟩, hB'⟩)
      go_roundw
      case rel => exact ⟨i + 1, V', by omega, by go_num, hG', e2'.trans HG.out.2.1, e3'.trans HG.out.2.2.1, HG.out.2.2.2.trans hB'⟩
      case measure => simp [intOf]; omega
    · have e : jn = i := by omega
      subst e
      have HG : Hid (GS w.heap.size G wr (nd + 1) (fun _ => nd + 1 + jn) V (fun _ => []) ∧ V 2 = .slice none 0 0 ∧ V 3 = .slice none 0 0 ∧ Below w.heap.size w wr) := ⟨hG, e2, e3, hB⟩
      clear hG e2 e3 hB
      go_wp2
      have HG2 : Hid (GS w.heap.size G ((wr.alloc (.cells (madeCells #[.int .i64 0] len) 3)).alloc (.cells (madeCells #[.int .i64 0] len) 3)) (nd + 1) (fun _ => nd + 1 + jn) (updN (updN V 2 (.slice (some ⟨wr.heap.size, 0, none⟩) 0 len)) 3 (.slice (some ⟨wr.heap.size + 1, 0, none⟩) 0 len)) (adjA (Eof f (nd + 1 + jn) 0)) ∧ Below w.heap.size w ((wr.alloc (.cells (madeCells #[.int .i64 0] len) 3)).alloc (.cells (madeCells #[.int .i64 0] len) 3))) := by
        have g1 := HG.out.1.give (t := 2) (q := len) (.inl rfl) rfl HG.out.2.1 hl
        have g2 := g1.give (t := 3) (q := len) (.inr rfl) rfl ((updN_other _ _ (by omega)).trans HG.out.2.2.1) hl
        have hsz : w.heap.size ≤ wr.heap.size := HG.out.2.2.2.size
        have e : adjA (Eof f (nd + 1 + jn) 0) = fun _ => [] := adjA_nil
        rw [e]
        refine ⟨?_, (HG.out.2.2.2.alloc hsz _).alloc (by simp; omega) _⟩
        simpa using g2
      clear HG hG1 hB1 e2 e3
      generalize (wr.alloc (.cells (madeCells #[.int .i64 0] len) 3)).alloc (.cells (madeCells #[.int .i64 0] len) 3) = w2 at HG2 ⊢
      obtain ⟨p, hp⟩ : ∃ p, nd + 1 + jn = p := ⟨_, rfl⟩
      have hpi : (nd : Int) + 1 + (jn : Int) = (p : Int) := by omega
      rw [hp] at HG2
      rw [hpi]
      go_loopw [16, 17, 47] (fun s16 s17 s47 wr => ∃ (k : Nat) (V : Nat → Value), k ≤ len ∧ s16 = V 2 ∧ s17 = V 3 ∧ s47 = .int .i64 k ∧ GS w.heap.size G wr (nd + 1) (fun _ => p) V (adjA (Eof f p k)) ∧ Below w.heap.size w wr) (fun _ _ s47 _ => len - (intOf s47).toNat)
      case atStart => exact ⟨0, _, by omega, rfl, rfl, rfl, HG2.out⟩
      case round =>
        obtain ⟨k, V, hk, rfl, rfl, rfl, hG, hB⟩ := hrel
        clear HG2
        by_cases hkl : k < len
        · obtain ⟨b, off, rfl, l1, l2, c0, c1⟩ := HE.out k hkl
          have hbl := World.block_lt_of_cell? w _ c0
          have d0 : wr.cell? ⟨b, off + k * 2, none⟩ = some (.int .u16 ((f k).1 : Int)) := (hB.cell (p := ⟨b, off + k * 2, none⟩) hbl).trans c0
          have d1 : wr.cell? ⟨b, off + k * 2 + 1, none⟩ = some (.int .u16 ((f k).2 : Int)) := (hB.cell (p := ⟨b, off + k * 2 + 1, none⟩) hbl).trans c1
          clear c0 c1
          obtain ⟨x, hx⟩ : ∃ x, (f k).1 = x := ⟨_, rfl⟩
          obtain ⟨y, hy⟩ : ∃ y, (f k).2 = y := ⟨_, rfl⟩
          have HX : Hid ((f k).1 = x ∧ (f k).2 = y) := ⟨hx, hy⟩
          rw [hx] at d0 l1
          rw [hy] at d1 l2
          have kk : (k : Int) < (len : Int) := by omega
          have kk0 : (0 : Int) ≤ (k : Int) := by omega
          have hwk : IntKind.i64.wrap ((k : Int) + 1) = (k : Int) + 1 := by rw [IntKind.wrap_i64]; omega
          have wx : IntKind.i64.wrap (x : Int) = (x : Int) := by rw [IntKind.wrap_i64]; omega
          have wy : IntKind.i64.wrap (y : Int) = (y : Int) := by rw [IntKind.wrap_i64]; omega
          have p0 : 0 < p := by omega
          have pz : ((p : Int) == 0) = false := by simp; omega
          obtain ⟨a', ha'⟩ : ∃ a', a' = x % p := ⟨_, rfl⟩
          obtain ⟨b', hb'⟩ : ∃ b', b' = y % p := ⟨_, rfl⟩
          have la : a' < p := ha' ▸ Nat.mod_lt _ p0
          have lb : b' < p := hb' ▸ Nat.mod_lt _ p0
          have ta : Int.tmod (x : Int) (p : Int) = (a' : Int) := by rw [ha', Int.tmod_eq_emod_of_nonneg (by omega)]; omega
          have tb : Int.tmod (y : Int) (p : Int) = (b' : Int) := by rw [hb', Int.tmod_eq_emod_of_nonneg (by omega)]; omega
          have wa : IntKind.i64.wrap (a' : Int) = (a' : Int) := by rw [IntKind.wrap_i64]; omega
          have wb : IntKind.i64.wrap (b' : Int) = (b' : Int) := by rw [IntKind.wrap_i64]; omega
          have HAB : Hid (a' = x % p ∧ b' = y % p) := ⟨ha', hb'⟩
          have HG : Hid (GS w.heap.size G wr (nd + 1) (fun _ => p) V (adjA (Eof f p k)) ∧ Below w.heap.size w wr) := ⟨hG, hB⟩
          clear hG hB hx hy ha' hb'
          obtain ⟨i3, hi3, hz3, hs3, hb3⟩ := info_parts info3
          have hEl := Eof_len f p k
          have hBr : w.heap.size ≤ wr.heap.size := HG.out.2.size
          go_wp2_with (first
            | (go_at_call 10; refine (edge_any _ _ _ _ p a' b' _ _ _ _ (HG.out.1.alloc _) la lb rfl rfl (Nat.le_trans (adjA_len _ _) (by omega)) (Nat.le_trans (adjA_len _ _) (by omega))).mono ?_; rintro _ w9 ⟨rfl, ⟨v1, v2, hG9⟩, hB9⟩; have HB9 : Hid (Below w.heap.size w w9) := (HG.out.2.alloc hBr _).trans hB9; have HO9 := hide (b1 hG9 rfl rfl hEl); have HG9 := hide hG9; have hB9s : w.heap.size ≤ w9.heap.size := HB9.out.size; clear hG9 hB9 d0 d1)
            | (at_builtin; refine wpList_append_lies _ rfl (.tmp 65) (.tmp 67) 25 rfl w.heap.size 3 i3 (.int .i64 0) 1 8 Yba.underlying25 hi3 hz3 hs3 hb3 rfl (by decide) (V 2) k _ rfl (HO9.out.alloc _) ⟨w9.heap.size, 0, none⟩ 1 1 [.int .i64 (a' : Int)] rfl rfl (cell_one_new _ _ _) (by simp [Value.oneCell']) (by omega) (by unfold maxLen; omega) (by omega) (by simp; omega) (w9.heap.size + 1) (by simp) ?_; intro g1 c1 w10 hown1 hgrow1 hat1 hlt1; obtain ⟨hG10, hO10⟩ := b2 HG9.out rfl rfl hEl hown1 hgrow1 hat1 rfl; have HB10 : Hid (Below w.heap.size w w10) := grown_below HB9.out hB9s HO9.out hgrow1; have HG10 := hide hG10; have HO10 := hide hO10; have hB10s : w.heap.size ≤ w10.heap.size := HB10.out.size; clear hown1 hgrow1 hat1 hG10 hO10 HG9 HO9)
            | (at_builtin; refine wpList_append_lies _ rfl (.tmp 69) (.tmp 71) 25 rfl w.heap.size 3 i3 (.int .i64 0) 1 8 Yba.underlying25 hi3 hz3 hs3 hb3 rfl (by decide) (V 3) k _ rfl (HO10.out.alloc _) ⟨w10.heap.size, 0, none⟩ 1 1 [.int .i64 (b' : Int)] rfl rfl (cell_one_new _ _ _) (by simp [Value.oneCell']) (by omega) (by unfold maxLen; omega) (by omega) (by simp; omega) (w10.heap.size + 1) (by simp) ?_; intro g2 c2 w11 hown2 hgrow2 hat2 hlt2; have HQ := hide (b3 HG10.out rfl rfl hEl hown2 hgrow2 hat2 rfl); have HB11 : Hid (Below w.heap.size w w11) := grown_below HB10.out hB10s HO10.out hgrow2; clear hown2 hgrow2 hat2))
          obtain ⟨V', hG', e2', e3'⟩ := HQ.out
          go_roundw
          case rel =>
            refine ⟨k + 1, V', by omega, e2', e3', by go_num, ?_, HB11.out⟩
            rw [Eof_succ, HX.out.1, HX.out.2, ← HAB.out.1, ← HAB.out.2]
            exact hG'
          case measure => simp [intOf]; omega
        · have e : len = k := by omega
          subst e
          have HQ : Hid (GS w.heap.size G wr (nd + 1) (fun _ => p) V (adjA (Eof f p len)) ∧ Below w.heap.size w wr) := ⟨hG, hB⟩
          clear hG hB
          go_wp2
          refine bodyPost_ret (results_tmp5 rfl _ _ _) rfl ?_
          refine ⟨G, V, ?_, ?_⟩
          · rw [hpi]; rfl
          · rw [hp]; exact HQ.out
end Go.Proofs.Ybulkcgnk
