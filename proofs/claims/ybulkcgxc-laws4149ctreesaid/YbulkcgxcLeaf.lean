import Derived.Test.YbulkcgxcNl2
import Derived.Deep.CutBlock
import Derived.Laws.CopyOwn
import Derived.Laws.Rows
namespace Go.Proofs.Ybulkcgxc
open Go.RowKit

/-- A node's block. -/
theorem nd_new {B : Nat} (w : World) (hB : B ≤ w.heap.size) (op : Nat) (sub rune : Value) (mn mx : Int) (f r0 r1 cp nm s0 : Value) : Nd B (w.alloc (.cells #[.int .u8 (op : Int), f, sub, s0, rune, r0, r1, .int .i64 mn, .int .i64 mx, cp, nm] 36)) w.heap.size op sub rune mx := by
  have h := heap_alloc_new w (.cells #[.int .u8 (op : Int), f, sub, s0, rune, r0, r1, .int .i64 mn, .int .i64 mx, cp, nm] 36)
  refine ⟨?_, ?_, ?_, ?_, hB⟩ <;> (rw [cell_of_row _ _ _ _ _ _ h]; rfl)

theorem nd_at {B : Nat} {w : World} {P : Nat} (hP : w.heap.size = P) (hB : B ≤ P) (op : Nat) (sub rune : Value) (mn mx : Int) (f r0 r1 cp nm s0 : Value) : Nd B (w.alloc (.cells #[.int .u8 (op : Int), f, sub, s0, rune, r0, r1, .int .i64 mn, .int .i64 mx, cp, nm] 36)) P op sub rune mx := by
  subst hP; exact nd_new w hB ..
theorem wrap_any (B : Nat) (w : World) (op Q : Nat) (hB : B ≤ w.heap.size) :
    Calls Yba.prog 5 #[.int .u8 (op : Int), .pointer (some ⟨Q, 0, none⟩)] w fun e w' => ∃ P b, e = .returned (.pointer (some ⟨P, 0, none⟩)) ∧ Nd B w' P op (.slice (some ⟨b, 0, none⟩) 1 1) (.slice none 0 0) 0 ∧ B ≤ b ∧ w'.cell? ⟨b, 0, none⟩ = some (.pointer (some ⟨Q, 0, none⟩)) ∧ Below w.heap.size w w' := by
  go_enter Yba.func5, Yba.ntmps5
  go_wp2
  go_ret
  refine ⟨w.heap.size + 1, w.heap.size, rfl, nd_at (by simp) (by omega) .., hB, ?_, ((Below.refl _ w).alloc (Nat.le_refl _) _).alloc (by simp) _⟩
  rw [World.cell?_of_block (a := ⟨w.heap.size, 0, none⟩) (Below.heap_alloc _ _ _ (by simp))]
  exact cell_of_one (heap_alloc_new w _)
/-- .. and what newlines answers then. -/
theorem wrap_nl (B : Nat) (w : World) (op Q : Nat) (n : Int) (ok : Bool) (hB : B ≤ w.heap.size) (h : NLS B w Q n ok) (ho : op = 13 ∨ op = 16) :
    Calls Yba.prog 5 #[.int .u8 (op : Int), .pointer (some ⟨Q, 0, none⟩)] w fun e w' => ∃ P, e = .returned (.pointer (some ⟨P, 0, none⟩)) ∧ NLS B w' P n ok ∧ Below w.heap.size w w' := by
  refine (wrap_any B w op Q hB).mono ?_
  rintro _ w' ⟨P, b, rfl, hn, hBb, hk, hb⟩
  exact ⟨P, rfl, nl_wrap hn ho ⟨b, 1, hBb, rfl, hk⟩ (h.below hb), hb⟩
theorem star_nl (B : Nat) (w : World) (op Q : Nat) (n : Int) (ok : Bool) (hB : B ≤ w.heap.size) (h : NLS B w Q n ok) (ho : op = 14 ∨ op = 15) :
    Calls Yba.prog 5 #[.int .u8 (op : Int), .pointer (some ⟨Q, 0, none⟩)] w fun e w' => ∃ P, e = .returned (.pointer (some ⟨P, 0, none⟩)) ∧ NLS B w' P 0 (ok && (n == 0)) ∧ Below w.heap.size w w' := by
  refine (wrap_any B w op Q hB).mono ?_
  rintro _ w' ⟨P, b, rfl, hn, hBb, hk, hb⟩
  exact ⟨P, rfl, nl_star hn ho ⟨b, 1, hBb, rfl, hk⟩ (h.below hb), hb⟩

theorem rep_end {B : Nat} {w : World} {P : Nat} {n mx : Int} {ok : Bool} {f s0 rune r0 r1 cp nm : Value} {a : Int} {b : Bool} (hB : B ≤ w.heap.size) (h : NLS B w P n ok) (hr : repR mx n ok = (a, b)) :
    NLS B ((w.alloc (.cells #[.pointer (some ⟨P, 0, none⟩)] 26)).alloc (.cells #[.int .u8 17, f, .slice (some ⟨w.heap.size, 0, none⟩) 1 1, s0, rune, r0, r1, .int .i64 0, .int .i64 mx, cp, nm] 36)) (w.heap.size + 1) a b := by
  have hb : Below w.heap.size w ((w.alloc (.cells #[.pointer (some ⟨P, 0, none⟩)] 26)).alloc (.cells #[.int .u8 17, f, .slice (some ⟨w.heap.size, 0, none⟩) 1 1, s0, rune, r0, r1, .int .i64 0, .int .i64 mx, cp, nm] 36)) := ((Below.refl _ w).alloc (Nat.le_refl _) _).alloc (by simp) _
  have e1 : a = (repR mx n ok).1 := by rw [hr]
  have e2 : b = (repR mx n ok).2 := by rw [hr]
  rw [e1, e2]
  refine nl_rep (nd_at (by simp) (by omega) 17 (.slice (some ⟨w.heap.size, 0, none⟩) 1 1) rune 0 mx f r0 r1 cp nm s0) ⟨w.heap.size, 1, hB, rfl, ?_⟩ (h.below hb)
  rw [World.cell?_of_block (a := ⟨w.heap.size, 0, none⟩) (Below.heap_alloc _ _ _ (by simp))]
  exact cell_of_one (heap_alloc_new w _)
/-- The runes that came in. -/
def InR (w : World) (ra : Option Addr) (rl : Nat) (z : Nat → Int) : Prop := ∀ j, j < rl → ∃ b off, ra = some ⟨b, off, none⟩ ∧ w.cell? ⟨b, off + j, none⟩ = some (.int .i32 (z j))

theorem info21 : (Yba.prog.info? 21).map (fun i => (i.zero, i.size, i.bytes)) = some (some (.int .i32 0), 1, 4) := by kernel_rfl
theorem make_runes (W : World) (p : Nat) (h : p ≤ 1024) : (Instr.makeSlice 23 (.int .i64 (p : Int)) (.int .i64 (p : Int))).run Yba.prog W = .ok (.slice (some ⟨W.heap.size, 0, none⟩) p p) (W.alloc (.cells (madeCells #[.int .i32 0] p) 21)) := by
  obtain ⟨i0, hi, hz0, hz1, hz2⟩ := info_parts info21
  have := run_make (P := Yba.prog) W 23 21 i0 _ Yba.underlying23 hi hz0 .i64 .i64 p p (by omega) (by omega) (by rw [hz2]; omega) (by omega)
  simpa [Value.cells, hz1] using this
def rs (y : Nat → Int) : Nat → Value := fun j => .int .i32 (y j)
def upd (y : Nat → Int) (k : Nat) (v : Int) : Nat → Int := fun j => if j = k then v else y j
theorem rs_upd {w : World} {b n : Nat} {y : Nat → Int} (h : w.rowIs b 21 n (rs y)) (k : Nat) (v : Int) : (w.setCell ⟨b, k, none⟩ (.int .i32 v)).rowIs b 21 n (rs (upd y k v)) :=
  (h.set k (.int .i32 v)).congr fun j _ => by
    by_cases e : j = k
    · subst e; simp [rs, upd]
    · simp [rs, upd, e]
theorem cnt_upd (y : Nat → Int) (k : Nat) (v : Int) : ∀ i, i ≤ k → cnt (upd y k v) i = cnt y i
  | 0, _ => rfl
  | j + 1, h => by
    have e : ¬ j = k := by omega
    simp only [cnt, cnt_upd y k v j (by omega), upd, if_neg e]
theorem cnt_upd_succ (y : Nat → Int) (k : Nat) (v : Int) : cnt (upd y k v) (k + 1) = cnt y k + if v = 10 then 1 else 0 := by
  simp only [cnt, cnt_upd y k v k (Nat.le_refl _), upd, if_true]
theorem rc_of {B : Nat} {w : World} {b n : Nat} {y : Nat → Int} (hB : B ≤ b) (h : w.rowIs b 21 n (rs y)) : RC B w (some ⟨b, 0, none⟩) n y := fun _ hj => ⟨b, hB, rfl, h.cell hj⟩
theorem made_at {W : World} {N : Nat} (h : W.heap.size = N) (p : Nat) : (W.alloc (.cells (madeCells #[.int .i32 0] p) 21)).rowIs N 21 p (rs fun _ => 0) := by
  subst h; exact World.rowIs_made W (.int .i32 0) p 21
theorem made_list {W : World} {N : Nat} (h : W.heap.size = N) (p : Nat) : (W.alloc (.cells (madeCells #[.int .i32 0] p) 21)).heap[N]? = some (.cells (List.replicate p (Value.int .i32 0)).toArray 21 (0, 0)) := by
  subst h
  rw [heap_alloc_new]
  congr 2
  apply Array.ext
  · simp [madeCells]
  · intro i h1 h2
    simp [madeCells, Nat.mod_one]
/-- The pairs' runes. -/
def src (z : Nat → Int) (n : Nat) : List Value := (List.range n).map fun j => .int .i32 (z j)
theorem src_len (z : Nat → Int) (n : Nat) : (src z n).length = n := by simp [src]
theorem src_row {W : World} {N n : Nat} {z : Nat → Int} (h : W.heap[N]? = some (.cells (splice (List.replicate n (Value.int .i32 0)) 0 (src z n)).toArray 21 (0, 0))) : W.rowIs N 21 n (rs z) := by
  have e : splice (List.replicate n (Value.int .i32 0)) 0 (src z n) = src z n := by simp [splice, src]
  rw [e] at h
  exact ⟨_, h, by simp [src], fun i hi => by simp [src, hi, rs]⟩
theorem src_cells {W : World} {ra : Option Addr} {rl n : Nat} {z : Nat → Int} (h : InR W ra rl z) (hn : n ≤ rl) (h0 : 0 < n) : ∃ ad, ra = some ad ∧ ∀ j v, (src z n)[j]? = some v → W.cell? (ad.add j) = some v := by
  obtain ⟨b, off, rfl, _⟩ := h 0 (by omega)
  refine ⟨_, rfl, fun j v hj => ?_⟩
  have hjn : j < n := by have := (List.getElem?_eq_some_iff.1 hj).1; simpa [src] using this
  have e : v = .int .i32 (z j) := by simp [src, hjn] at hj; exact hj.symm
  subst e
  obtain ⟨b', off', e', hc⟩ := h j (by omega)
  simp at e'
  obtain ⟨rfl, rfl⟩ := e'
  rw [WideShapes.add_plain]
  exact hc
theorem src_one (z : Nat → Int) (n : Nat) : ∀ v ∈ src z n, v.oneCell' = true := by
  intro v hv
  simp [src] at hv
  obtain ⟨j, _, rfl⟩ := hv
  simp [Value.oneCell']
theorem InR.below {w w' : World} {ra : Option Addr} {rl : Nat} {z : Nat → Int} (h : InR w ra rl z) (hb : Below w.heap.size w w') : InR w' ra rl z := fun j hj => by
  obtain ⟨b, off, e, hc⟩ := h j hj
  exact ⟨b, off, e, cell_below hb hc⟩

/-- What a leaf gives: a node, and newlines' answer at it. -/
def LeafR (w w' : World) (e : Ending) : Prop := ∃ P n ok, e = .returned (.tuple #[.pointer (some ⟨P, 0, none⟩), .int .i64 n, .bool ok]) ∧ NLS w.heap.size w' P n ok ∧ Below w.heap.size w w'

set_option maxHeartbeats 4000000 in
set_option maxRecDepth 4000 in
theorem leaf_any (w : World) (op wp rl rc : Nat) (ra : Option Addr) (mx : Int) (z : Nat → Int) (hR : InR w ra rl z) (hl : rl ≤ 256) (hrc : rl ≤ rc) (ho : op < 256) (hw : wp < 256) :
    Calls Yba.prog 4 #[.agg #[.int .u8 (op : Int), .slice ra rl rc, .int .u8 (wp : Int), .int .i64 mx]] w fun e w' => LeafR w w' e := by
  obtain ⟨q, hq⟩ : ∃ q, op % 7 = q := ⟨_, rfl⟩
  obtain ⟨u, hu⟩ : ∃ u, wp % 6 = u := ⟨_, rfl⟩
  have tq : Int.tmod (op : Int) 7 = (q : Int) := by rw [Int.tmod_eq_emod_of_nonneg (by omega)]; omega
  have tu : Int.tmod (wp : Int) 6 = (u : Int) := by rw [Int.tmod_eq_emod_of_nonneg (by omega)]; omega
  have wq : IntKind.u8.wrap (q : Int) = (q : Int) := by rw [IntKind.wrap_u8]; omega
  have wu : IntKind.u8.wrap (u : Int) = (u : Int) := by rw [IntKind.wrap_u8]; omega
  have q7 : q < 7 := by omega
  have u6 : u < 6 := by omega
  have HR := hide hR
  clear hR hq hu
  go_enter Yba.func4, Yba.ntmps4
  go_upto_block 0 with fail
  have HB0 : Hid (Below w.heap.size w (w.alloc (.cells #[.int .u8 (op : Int), .slice ra rl rc, .int .u8 (wp : Int), .int .i64 mx] 25)) ∧ (w.alloc (.cells #[.int .u8 (op : Int), .slice ra rl rc, .int .u8 (wp : Int), .int .i64 mx] 25)).heap[w.heap.size]? = some (.cells #[.int .u8 (op : Int), .slice ra rl rc, .int .u8 (wp : Int), .int .i64 mx] 25 (0, 0))) :=
    ⟨(Below.refl _ w).alloc (Nat.le_refl _) _, heap_alloc_new w _⟩
  go_cut [5, 6, 7] from 14 to 110 (fun s5 s6 s7 wx => ∃ P n ok, s5 = .pointer (some ⟨P, 0, none⟩) ∧ s6 = .int .i64 n ∧ s7 = .bool ok ∧ NLS w.heap.size wx P n ok ∧ Below w.heap.size w wx ∧ wx.heap[w.heap.size]? = some (.cells #[.int .u8 (op : Int), .slice ra rl rc, .int .u8 (wp : Int), .int .i64 mx] 25 (0, 0)))
  case first =>
    rcases (show q = 2 ∨ q = 3 ∨ q = 4 ∨ q = 5 ∨ q = 6 ∨ q = 0 ∨ q = 1 from by omega) with rfl | rfl | rfl | rfl | rfl | rfl | rfl
    · go_wp2
      go_meet
      case rel => exact ⟨_, _, _, rfl, rfl, rfl, nl_any (nd_at (by simp) (by simp) 6 ..), (HB0.out.1.alloc (by simp) _), (Below.heap_alloc _ _ _ (by simp)).trans HB0.out.2⟩
    · go_wp2
      go_meet
      case rel => exact ⟨_, _, _, rfl, rfl, rfl, nl_text (nd_at (by simp) (by simp) 9 ..) (.inl rfl), (HB0.out.1.alloc (by simp) _), (Below.heap_alloc _ _ _ (by simp)).trans HB0.out.2⟩
    · go_wp2
      go_meet
      case rel => exact ⟨_, _, _, rfl, rfl, rfl, nl_text (nd_at (by simp) (by simp) 10 ..) (.inr rfl), (HB0.out.1.alloc (by simp) _), (Below.heap_alloc _ _ _ (by simp)).trans HB0.out.2⟩
    · go_wp2
      go_meet
      case rel => exact ⟨_, _, _, rfl, rfl, rfl, nl_other (nd_at (by simp) (by simp) 2 ..) (.inl rfl), (HB0.out.1.alloc (by simp) _), (Below.heap_alloc _ _ _ (by simp)).trans HB0.out.2⟩
    · go_wp2
      go_meet
      case rel => exact ⟨_, _, _, rfl, rfl, rfl, nl_other (nd_at (by simp) (by simp) 7 ..) (.inr rfl), (HB0.out.1.alloc (by simp) _), (Below.heap_alloc _ _ _ (by simp)).trans HB0.out.2⟩
    · have hmk := fun W => make_runes W rl (by omega)
      go_wp2
      have HP : Hid (((w.alloc (.cells #[.int .u8 (op : Int), .slice ra rl rc, .int .u8 (wp : Int), .int .i64 mx] 25)).alloc (.cells (madeCells #[.int .i32 0] rl) 21)).rowIs (w.heap.size + 1) 21 rl (rs fun _ => 0) ∧ Below w.heap.size w ((w.alloc (.cells #[.int .u8 (op : Int), .slice ra rl rc, .int .u8 (wp : Int), .int .i64 mx] 25)).alloc (.cells (madeCells #[.int .i32 0] rl) 21)) ∧
          ((w.alloc (.cells #[.int .u8 (op : Int), .slice ra rl rc, .int .u8 (wp : Int), .int .i64 mx] 25)).alloc (.cells (madeCells #[.int .i32 0] rl) 21)).heap[w.heap.size]? = some (.cells #[.int .u8 (op : Int), .slice ra rl rc, .int .u8 (wp : Int), .int .i64 mx] 25 (0, 0))) := by
        refine ⟨?_, HB0.out.1.alloc (by simp) _, (Below.heap_alloc _ _ _ (by simp)).trans HB0.out.2⟩
        exact made_at (by simp) rl
      clear HB0
      generalize (w.alloc (.cells #[.int .u8 (op : Int), .slice ra rl rc, .int .u8 (wp : Int), .int .i64 mx] 25)).alloc (.cells (madeCells #[.int .i32 0] rl) 21) = w0 at HP ⊢
      go_loopw [6, 28] (fun s6 s28 wr => ∃ (k : Nat) (y : Nat → Int), k ≤ rl ∧ s28 = .int .i64 k ∧ s6 = .int .i64 (cnt y k : Int) ∧ wr.rowIs (w.heap.size + 1) 21 rl (rs y) ∧ Below w.heap.size w wr ∧ wr.heap[w.heap.size]? = some (.cells #[.int .u8 (op : Int), .slice ra rl rc, .int .u8 (wp : Int), .int .i64 mx] 25 (0, 0))) (fun _ s28 _ => rl - (intOf s28).toNat)
      case atStart => exact ⟨0, _, by omega, rfl, rfl, HP.out⟩
      case round =>
        obtain ⟨k, y, hk, rfl, rfl, hrow, hB, hbox⟩ := hrel
        clear HP
        by_cases hkl : k < rl
        · obtain ⟨b, off, rfl, r0⟩ := (HR.out.below hB) k hkl
          obtain ⟨x, hx⟩ : ∃ x, IntKind.u32.wrap (z k) = x := ⟨_, rfl⟩
          have hx0 : 0 ≤ x ∧ x < 4294967296 := by rw [← hx, IntKind.wrap_u32]; omega
          obtain ⟨d, hd⟩ : ∃ d, Int.tmod x 2 = d := ⟨_, rfl⟩
          have hd0 : 0 ≤ d ∧ d < 2 := by rw [← hd, Int.tmod_eq_emod_of_nonneg hx0.1]; omega
          obtain ⟨e, he⟩ : ∃ e, Int.tmod x 4 = e := ⟨_, rfl⟩
          have he0 : 0 ≤ e ∧ e < 4 := by rw [← he, Int.tmod_eq_emod_of_nonneg hx0.1]; omega
          have wd : IntKind.u32.wrap d = d := by rw [IntKind.wrap_u32]; omega
          have we : IntKind.u32.wrap e = e := by rw [IntKind.wrap_u32]; omega
          have we2 : IntKind.i32.wrap e = e := by rw [IntKind.wrap_i32]; omega
          have we3 : IntKind.i32.wrap (97 + e) = 97 + e := by rw [IntKind.wrap_i32]; omega
          have q0 := hrow.cell hkl
          have q1 := hrow.frozen k
          simp only [rs] at q0
          have kk : (k : Int) < (rl : Int) := by omega
          have kk0 : (0 : Int) ≤ (k : Int) := by omega
          have hck := cnt_le y k
          have hwk : IntKind.i64.wrap ((k : Int) + 1) = (k : Int) + 1 := by rw [IntKind.wrap_i64]; omega
          have hwc : IntKind.i64.wrap ((cnt y k : Int) + 1) = (cnt y k : Int) + 1 := by rw [IntKind.wrap_i64]; omega
          have HQ := hide (And.intro hrow (And.intro hB hbox))
          clear hrow hB hbox
          by_cases h1 : d = 1
          · have e1 : (d == 1) = true := by simpa using h1
            go_wp2
            have hq := HQ.out
            exact ⟨⟨k + 1, upd y k 10, by omega, by go_num, by rw [cnt_upd_succ]; go_num, rs_upd hq.1 k 10, hq.2.1.setCell (p := ⟨w.heap.size + 1, k, none⟩) (by simp) _, (Below.heap_setCell _ _ _ _ (by simp)).trans hq.2.2⟩, by simp [intOf]; omega⟩
          · have e1 : (d == 1) = false := by simpa using h1
            go_wp2
            have hq := HQ.out
            exact ⟨⟨k + 1, upd y k (97 + e), by omega, by go_num, by rw [cnt_upd_succ, if_neg (by omega)]; go_num, rs_upd hq.1 k (97 + e), hq.2.1.setCell (p := ⟨w.heap.size + 1, k, none⟩) (by simp) _, (Below.heap_setCell _ _ _ _ (by simp)).trans hq.2.2⟩, by simp [intOf]; omega⟩
        · have e : rl = k := by omega
          subst e
          have HQ := hide (And.intro hrow (And.intro hB hbox))
          have hlt := (Array.getElem?_eq_some_iff.1 hbox).1
          clear hrow hB hbox
          go_wp2
          go_meet
          case rel =>
            have hq := HQ.out
            have hb1 : ∀ o, Below wr.heap.size wr (wr.alloc o) := fun o => (Below.refl _ _).alloc (Nat.le_refl _) o
            exact ⟨_, _, _, rfl, rfl, rfl, nl_lit (nd_at rfl hq.2.1.size 3 ..) ((rc_of (by simp) hq.1).keep (.of_below (hb1 _))) (by omega), hq.2.1.alloc hq.2.1.size _, (Below.heap_alloc _ _ _ hlt).trans hq.2.2⟩
    · obtain ⟨kl, hkl⟩ : ∃ kl, rl / 2 = kl := ⟨_, rfl⟩
      obtain ⟨n2, hn2⟩ : ∃ n2, 2 * kl = n2 := ⟨_, rfl⟩
      have hmk := fun W => make_runes W n2 (by omega)
      have tk : Int.tdiv (rl : Int) 2 = (kl : Int) := by rw [Int.tdiv_eq_ediv_of_nonneg (by omega)]; omega
      have wk : IntKind.i64.wrap (kl : Int) = (kl : Int) := by rw [IntKind.wrap_i64]; omega
      have mk2 : (2 : Int) * (kl : Int) = (n2 : Int) := by omega
      have wn : IntKind.i64.wrap (n2 : Int) = (n2 : Int) := by rw [IntKind.wrap_i64]; omega
      have n2rl : n2 ≤ rl := by omega
      have nn0 : (0 : Int) ≤ (n2 : Int) := by omega
      have nn1 : (n2 : Int) ≤ (rc : Int) := by omega
      have HN := hide (And.intro hkl hn2)
      clear hkl hn2
      have hsz21 : (Yba.prog.info? 21).map (·.size) = some 1 := by kernel_rfl
      have HB1 : Hid (Below w.heap.size w ((w.alloc (.cells #[.int .u8 (op : Int), .slice ra rl rc, .int .u8 (wp : Int), .int .i64 mx] 25)).alloc (.cells (madeCells #[.int .i32 0] n2) 21))) := HB0.out.1.alloc (by simp) _
      have HB2 : Hid (Below (w.heap.size + 1) ((w.alloc (.cells #[.int .u8 (op : Int), .slice ra rl rc, .int .u8 (wp : Int), .int .i64 mx] 25)).alloc (.cells (madeCells #[.int .i32 0] n2) 21)) ((w.alloc (.cells #[.int .u8 (op : Int), .slice ra rl rc, .int .u8 (wp : Int), .int .i64 mx] 25)).alloc (.cells (madeCells #[.int .i32 0] n2) 21))) := Below.refl _ _
      have HBX : Hid (((w.alloc (.cells #[.int .u8 (op : Int), .slice ra rl rc, .int .u8 (wp : Int), .int .i64 mx] 25)).alloc (.cells (madeCells #[.int .i32 0] n2) 21)).heap[w.heap.size]? = some (.cells #[.int .u8 (op : Int), .slice ra rl rc, .int .u8 (wp : Int), .int .i64 mx] 25 (0, 0))) := (Below.heap_alloc _ _ _ (by simp)).trans HB0.out.2
      go_wp2_with (refine wpList_copy_splice rfl (.tmp 65) (.tmp 70) 23 23 rfl 21 Yba.underlying23 hsz21 _ ra n2 n2 n2 rc rfl rfl (w.heap.size + 1) 0 (List.replicate n2 (.int .i32 0)) 21 (made_list (by simp) n2) (src z n2) (by rw [src_len]; simp) (fun h => ⟨rfl, src_cells (HR.out.below HB1.out) n2rl (by rw [src_len] at h; exact h)⟩) (by simp [src_len]) (src_one z n2) (w.heap.size + 1) _ HB2.out (Nat.le_refl _) ?_; intro w4 hg4 hb4; have HQ := hide (And.intro (src_row hg4.out) (And.intro (HB1.out.trans (hb4.mono (by omega))) ((hb4.block _ (by omega)).trans HBX.out))); clear hg4 hb4 HB1 HB2 HBX HB0)
      have HN2 := hide HN.out.2
      go_loopw [6, 13] (fun s6 s13 wr => w4 = wr ∧ ∃ i : Nat, i ≤ kl ∧ s13 = .int .i64 i ∧ s6 = .int .i64 (cls z i)) (fun _ s13 _ => kl - (intOf s13).toNat)
      case atStart => exact ⟨rfl, 0, by omega, rfl, rfl⟩
      case round =>
        obtain ⟨rfl, i, hi, rfl, rfl⟩ := hrel
        by_cases hik : i < kl
        · obtain ⟨t, ht⟩ : ∃ t, 2 * i = t := ⟨_, rfl⟩
          have ht2 : t + 1 < n2 := by have := HN2.out; omega
          have r0 := HQ.out.1.cell (show t < n2 by omega)
          have r1 := HQ.out.1.cell ht2
          simp only [rs] at r0 r1
          have mi : (2 : Int) * (i : Int) = (t : Int) := by omega
          have wt : IntKind.i64.wrap (t : Int) = (t : Int) := by rw [IntKind.wrap_i64]; omega
          have wt1 : IntKind.i64.wrap ((t : Int) + 1) = (t : Int) + 1 := by rw [IntKind.wrap_i64]; omega
          have wi : IntKind.i64.wrap ((i : Int) + 1) = (i : Int) + 1 := by rw [IntKind.wrap_i64]; omega
          have ii : (i : Int) < (kl : Int) := by omega
          have tt : (t : Int) < (n2 : Int) := by omega
          have tt1 : (t : Int) + 1 < (n2 : Int) := by omega
          have tt0 : (0 : Int) ≤ (t : Int) := by omega
          have tt2 : (0 : Int) ≤ (t : Int) + 1 := by omega
          obtain ⟨x, hx⟩ : ∃ x, z t = x := ⟨_, rfl⟩
          obtain ⟨y, hy⟩ : ∃ y, z (t + 1) = y := ⟨_, rfl⟩
          rw [hx] at r0
          rw [hy] at r1
          have HE : Hid (cls z (i + 1) = if x ≤ 10 ∧ 10 ≤ y then 1 else cls z i) := by
            show cls z (i + 1) = _
            rw [← hx, ← hy, ← ht]; rfl
          clear hx hy ht ht2
          rcases (show (¬ x ≤ 10) ∨ (x ≤ 10 ∧ ¬ 10 ≤ y) ∨ (x ≤ 10 ∧ 10 ≤ y) from by omega) with h1 | ⟨h1, h2⟩ | ⟨h1, h2⟩
          · have e1 : decide (x ≤ 10) = false := by simpa using h1
            go_wp2
            exact ⟨⟨trivial, i + 1, by omega, by go_num, by rw [HE.out, if_neg (by omega)]⟩, by simp [intOf]; omega⟩
          · have e2 : decide (10 ≤ y) = false := by simpa using h2
            go_wp2
            exact ⟨⟨trivial, i + 1, by omega, by go_num, by rw [HE.out, if_neg (by omega)]⟩, by simp [intOf]; omega⟩
          · go_wp2
            exact ⟨⟨trivial, i + 1, by omega, by go_num, by rw [HE.out, if_pos (by omega)]⟩, by simp [intOf]; omega⟩
        · have e : kl = i := by omega
          subst e
          go_wp2
          go_meet
          case rel =>
            have hq := HQ.out
            have hlt := (Array.getElem?_eq_some_iff.1 hq.2.2).1
            have hb1 : ∀ o, Below w4.heap.size w4 (w4.alloc o) := fun o => (Below.refl _ _).alloc (Nat.le_refl _) o
            exact ⟨_, _, _, rfl, rfl, rfl, nl_class (nd_at rfl hq.2.1.size 4 ..) ((rc_of (by simp) hq.1).keep (.of_below (hb1 _))) HN2.out (by omega), hq.2.1.alloc hq.2.1.size _, (Below.heap_alloc _ _ _ hlt).trans hq.2.2⟩
  case rest =>
    obtain ⟨P, n, ok, rfl, rfl, rfl, hN, hB, hbox⟩ := hcut
    have HN := hide hN
    have HB := hide hB
    have b2 : wc.cell? ⟨w.heap.size, 2, none⟩ = some (.int .u8 (wp : Int)) := by rw [cell_of_row _ _ _ _ _ _ hbox]; rfl
    have b3 : wc.cell? ⟨w.heap.size, 3, none⟩ = some (.int .i64 mx) := by rw [cell_of_row _ _ _ _ _ _ hbox]; rfl
    clear hN hB hbox HB0
    rcases (show u = 0 ∨ u = 1 ∨ u = 2 ∨ u = 3 ∨ u = 4 ∨ u = 5 from by omega) with rfl | rfl | rfl | rfl | rfl | rfl
    · go_wp2
      go_ret3
      unfold LeafR
      exact ⟨_, _, _, rfl, HN.out, HB.out⟩
    · go_wp2_with (go_at_call 5; refine (wrap_nl w.heap.size _ 13 P n ok HB.out.size HN.out (.inl rfl)).mono ?_; rintro _ w5 ⟨P', rfl, hn5, hb5⟩; have HN5 := hide (And.intro hn5 (HB.out.trans (hb5.mono HB.out.size))); clear hn5 hb5)
      go_ret3
      unfold LeafR
      exact ⟨_, _, _, rfl, HN5.out⟩
    · go_wp2_with (go_at_call 5; refine (wrap_nl w.heap.size _ 16 P n ok HB.out.size HN.out (.inr rfl)).mono ?_; rintro _ w5 ⟨P', rfl, hn5, hb5⟩; have HN5 := hide (And.intro hn5 (HB.out.trans (hb5.mono HB.out.size))); clear hn5 hb5)
      go_ret3
      unfold LeafR
      exact ⟨_, _, _, rfl, HN5.out⟩
    · rcases (show ok = false ∨ (ok = true ∧ n = 0) ∨ (ok = true ∧ ¬ n = 0) from by cases ok <;> simp; exact Decidable.em _) with rfl | ⟨rfl, rfl⟩ | ⟨rfl, hn⟩
      · go_wp2_with (go_at_call 5; refine (star_nl w.heap.size _ 14 P n false HB.out.size HN.out (.inl rfl)).mono ?_; rintro _ w5 ⟨P', rfl, hn5, hb5⟩; have HN5 := hide (And.intro hn5 (HB.out.trans (hb5.mono HB.out.size))); clear hn5 hb5)
        go_ret3
        unfold LeafR
        exact ⟨_, _, _, rfl, HN5.out⟩
      · go_wp2_with (go_at_call 5; refine (star_nl w.heap.size _ 14 P 0 true HB.out.size HN.out (.inl rfl)).mono ?_; rintro _ w5 ⟨P', rfl, hn5, hb5⟩; have HN5 := hide (And.intro hn5 (HB.out.trans (hb5.mono HB.out.size))); clear hn5 hb5)
        go_ret3
        unfold LeafR
        exact ⟨_, _, _, rfl, HN5.out⟩
      · have e1 : (n != 0) = true := by simpa using hn
        have e2 : (true && (n == 0)) = false := by simpa using hn
        have e3 : (n == 0) = false := by simpa using hn
        go_wp2_with (go_at_call 5; refine (star_nl w.heap.size _ 14 P n true HB.out.size HN.out (.inl rfl)).mono ?_; rintro _ w5 ⟨P', rfl, hn5, hb5⟩; rw [e2] at hn5; have HN5 := hide (And.intro hn5 (HB.out.trans (hb5.mono HB.out.size))); clear hn5 hb5)
        go_ret3
        unfold LeafR
        exact ⟨_, _, _, rfl, HN5.out⟩
    · rcases (show ok = false ∨ (ok = true ∧ n = 0) ∨ (ok = true ∧ ¬ n = 0) from by cases ok <;> simp; exact Decidable.em _) with rfl | ⟨rfl, rfl⟩ | ⟨rfl, hn⟩
      · go_wp2_with (go_at_call 5; refine (star_nl w.heap.size _ 15 P n false HB.out.size HN.out (.inr rfl)).mono ?_; rintro _ w5 ⟨P', rfl, hn5, hb5⟩; have HN5 := hide (And.intro hn5 (HB.out.trans (hb5.mono HB.out.size))); clear hn5 hb5)
        go_ret3
        unfold LeafR
        exact ⟨_, _, _, rfl, HN5.out⟩
      · go_wp2_with (go_at_call 5; refine (star_nl w.heap.size _ 15 P 0 true HB.out.size HN.out (.inr rfl)).mono ?_; rintro _ w5 ⟨P', rfl, hn5, hb5⟩; have HN5 := hide (And.intro hn5 (HB.out.trans (hb5.mono HB.out.size))); clear hn5 hb5)
        go_ret3
        unfold LeafR
        exact ⟨_, _, _, rfl, HN5.out⟩
      · have e1 : (n != 0) = true := by simpa using hn
        have e2 : (true && (n == 0)) = false := by simpa using hn
        have e3 : (n == 0) = false := by simpa using hn
        go_wp2_with (go_at_call 5; refine (star_nl w.heap.size _ 15 P n true HB.out.size HN.out (.inr rfl)).mono ?_; rintro _ w5 ⟨P', rfl, hn5, hb5⟩; rw [e2] at hn5; have HN5 := hide (And.intro hn5 (HB.out.trans (hb5.mono HB.out.size))); clear hn5 hb5)
        go_ret3
        unfold LeafR
        exact ⟨_, _, _, rfl, HN5.out⟩
    · have b4 := fun o => cell_below ((Below.refl _ wc).alloc (Nat.le_refl _) o) b3
      have b5 := fun o o' => cell_below (((Below.refl wc.heap.size wc).alloc (Nat.le_refl _) o).alloc (by simp) o') b3
      have hsz : w.heap.size ≤ wc.heap.size := HB.out.size
      rcases (show ok = false ∨ (ok = true ∧ n = 0) ∨ (ok = true ∧ ¬ n = 0) from by cases ok <;> simp; exact Decidable.em _) with rfl | ⟨rfl, rfl⟩ | ⟨rfl, hn⟩
      · have HR5 : Hid (repR mx n false = (0, false)) := by simp [Hid, repR]
        go_wp2
        go_ret3
        unfold LeafR
        exact ⟨_, _, _, rfl, rep_end HB.out.size HN.out HR5.out, (HB.out.alloc HB.out.size _).alloc (by simp; omega) _⟩
      · have HR5 : Hid (repR mx 0 true = (0, true)) := by simp [Hid, repR]
        go_wp2
        go_ret3
        unfold LeafR
        exact ⟨_, _, _, rfl, rep_end HB.out.size HN.out HR5.out, (HB.out.alloc HB.out.size _).alloc (by simp; omega) _⟩
      · have e1 : (n != 0) = true := by simpa using hn
        have e3 : (n == 0) = false := by simpa using hn
        by_cases hm : mx < 0
        · have HR5 : Hid (repR mx n true = (0, false)) := by simp [Hid, repR, hn, hm]
          go_wp2
          go_ret3
          unfold LeafR
          exact ⟨_, _, _, rfl, rep_end HB.out.size HN.out HR5.out, (HB.out.alloc HB.out.size _).alloc (by simp; omega) _⟩
        · obtain ⟨p, hp⟩ : ∃ p, IntKind.i64.wrap (mx * n) = p := ⟨_, rfl⟩
          have HR5 : Hid (repR mx n true = (p, decide (p ≤ 8))) := by simp [Hid, repR, hn, hm, hp]
          have e4 : decide (mx < 0) = false := by simpa using hm
          go_wp2
          go_ret3
          unfold LeafR
          exact ⟨_, _, _, rfl, rep_end HB.out.size HN.out HR5.out, (HB.out.alloc HB.out.size _).alloc (by simp; omega) _⟩
end Go.Proofs.Ybulkcgxc
