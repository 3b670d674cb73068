import Derived.Test.YbulkcgxcLeaf
namespace Go.Proofs.Ybulkcgxc
open Go.RowKit

/-- A leaf as it came in. -/
structure LF where
  op : Nat
  wp : Nat
  rl : Nat
  rc : Nat
  ra : Option Addr
  mx : Int
  z : Nat → Int
/-- The leaves as they came in. -/
def InL (w : World) (a : Option Addr) (m : Nat) (lf : Nat → LF) : Prop :=
  ∀ j, j < m → ∃ b off, a = some ⟨b, off, none⟩ ∧ w.cell? ⟨b, off + j * 4, none⟩ = some (.int .u8 ((lf j).op : Int)) ∧ w.cell? ⟨b, off + j * 4 + 1, none⟩ = some (.slice (lf j).ra (lf j).rl (lf j).rc) ∧ w.cell? ⟨b, off + j * 4 + 2, none⟩ = some (.int .u8 ((lf j).wp : Int)) ∧ w.cell? ⟨b, off + j * 4 + 3, none⟩ = some (.int .i64 (lf j).mx) ∧
    InR w (lf j).ra (lf j).rl (lf j).z ∧ (lf j).rl ≤ (lf j).rc ∧ (lf j).op < 256 ∧ (lf j).wp < 256
def updF {α : Type} (f : Nat → α) (k : Nat) (v : α) : Nat → α := fun j => if j = k then v else f j
theorem updF_same {α : Type} (f : Nat → α) (k : Nat) (v : α) : updF f k v k = v := by simp [updF]
theorem updF_other {α : Type} (f : Nat → α) {k j : Nat} (v : α) (h : j ≠ k) : updF f k v j = f j := by simp [updF, h]
theorem runT_upd (cat : Bool) (L : Nat → Int × Bool) (k : Nat) (v : Int × Bool) : ∀ i, i ≤ k → runT cat (updF L k v) i = runT cat L i
  | 0, _ => rfl
  | i + 1, h => by
    have e : i ≠ k := by omega
    simp only [runT, runT_upd cat L k v i (by omega), updF_other L v e]
/-- What the loop over the leaves has: k of them are built. -/
structure BL (w wr : World) (Sb m k : Nat) (cat : Bool) (x : Int) (fl : Bool) (L : Nat → Int × Bool) (Q : Nat → Nat) : Prop where
  row : ∃ f, wr.rowIs Sb 26 m f ∧ ∀ j, j < k → f j = .pointer (some ⟨Q j, 0, none⟩)
  nl : ∀ j, j < k → NLS (Sb + 1) wr (Q j) (L j).1 (L j).2
  ok : fl = false → runT cat L k = some x
  no : fl = true → runT cat L k = none
  bel : Below w.heap.size w wr
  sb : w.heap.size ≤ Sb
theorem BL.step {w wr w5 : World} {Sb m k P : Nat} {cat fl fl' : Bool} {x x' n : Int} {ok : Bool} {L : Nat → Int × Bool} {Q : Nat → Nat} (h : BL w wr Sb m k cat x fl L Q) (hn : NLS wr.heap.size w5 P n ok) (hb : Below wr.heap.size wr w5)
    (hx : (fl = true ∧ fl' = true) ∨ (fl = false ∧ ok = false ∧ fl' = true) ∨ (fl = false ∧ ok = true ∧ fl' = false ∧ x' = comb cat x n)) :
    BL w (w5.setCell ⟨Sb, k, none⟩ (.pointer (some ⟨P, 0, none⟩))) Sb m (k + 1) cat x' fl' (updF L k (n, ok)) (updF Q k P) := by
  obtain ⟨f, hr, hf⟩ := h.row
  have hr5 : w5.rowIs Sb 26 m f := hr.of_block (hb.block Sb hr.lt)
  have hb5 : Below w.heap.size w w5 := h.bel.trans (hb.mono h.bel.size)
  refine ⟨⟨_, hr5.set k _, fun j hj => ?_⟩, fun j hj => ?_, fun hfl => ?_, fun hfl => ?_, hb5.setCell (p := ⟨Sb, k, none⟩) h.sb _, h.sb⟩
  · by_cases e : j = k
    · subst e; rw [updF_same]; simp
    · rw [updF_other _ _ e, if_neg e]; exact hf j (by omega)
  · have hk : Kp (Sb + 1) w5 (w5.setCell ⟨Sb, k, none⟩ (.pointer (some ⟨P, 0, none⟩))) := ⟨by simp, fun i hi _ => Below.heap_setCell _ _ _ _ (by simp; omega)⟩
    by_cases e : j = k
    · subst e
      rw [updF_same, updF_same]
      exact (hn.mono hr.lt).keep hk
    · rw [updF_other _ _ e, updF_other _ _ e]
      exact ((h.nl j (by omega)).below hb).keep hk
  · rcases hx with ⟨_, rfl⟩ | ⟨_, _, rfl⟩ | ⟨e1, e2, _, e4⟩
    · cases hfl
    · cases hfl
    · simp only [runT, runT_upd cat L k _ k (Nat.le_refl _), h.ok e1, updF_same, e2, e4]
      rfl
  · rcases hx with ⟨e1, _⟩ | ⟨e1, e2, _⟩ | ⟨_, _, e3, _⟩
    · simp only [runT, runT_upd cat L k _ k (Nat.le_refl _), h.no e1]
    · simp only [runT, runT_upd cat L k _ k (Nat.le_refl _), h.ok e1, updF_same, e2]
      rfl
    · rw [e3] at hfl; cases hfl
/-- The node over all of them. -/
def JR (w wx : World) (s8 s9 s10 : Value) : Prop := ∃ P n ok, s8 = .pointer (some ⟨P, 0, none⟩) ∧ s9 = .int .i64 n ∧ s10 = .bool ok ∧ NLS w.heap.size wx P n ok ∧ Below w.heap.size w wx
theorem BL.kids {w wr : World} {Sb m : Nat} {cat fl : Bool} {x : Int} {L : Nat → Int × Bool} {Q : Nat → Nat} (h : BL w wr Sb m m cat x fl L Q) (o : Obj) : Kids w.heap.size (wr.alloc o) (some ⟨Sb, 0, none⟩) m Q ∧ (∀ j, j < m → NLS w.heap.size (wr.alloc o) (Q j) (L j).1 (L j).2) ∧ Below w.heap.size w (wr.alloc o) := by
  have hb : Below wr.heap.size wr (wr.alloc o) := (Below.refl _ _).alloc (Nat.le_refl _) o
  obtain ⟨f, hr, hf⟩ := h.row
  refine ⟨fun j hj => ⟨Sb, h.sb, rfl, cell_below hb ?_⟩, fun j hj => ((h.nl j hj).below hb).mono (by have := h.sb; omega), h.bel.alloc h.bel.size o⟩
  rw [← hf j hj]
  exact hr.cell hj
theorem join_ok {cat : Bool} {L : Nat → Int × Bool} {m : Nat} {x : Int} (h : runT cat L m = some x) : joinR cat L m = (x, decide (x ≤ 8)) := by simp [joinR, h]
theorem join_no {cat : Bool} {L : Nat → Int × Bool} {m : Nat} (h : runT cat L m = none) : joinR cat L m = (0, false) := by simp [joinR, h]
theorem BL.cat {w wr : World} {Sb m c : Nat} {fl : Bool} {x a : Int} {ok : Bool} {L : Nat → Int × Bool} {Q : Nat → Nat} {f s0 rune r0 r1 cp nm : Value} {mn mx : Int} (h : BL w wr Sb m m true x fl L Q) (hm : m ≤ 1024) (hr : joinR true L m = (a, ok)) :
    JR w (wr.alloc (.cells #[.int .u8 18, f, .slice (some ⟨Sb, 0, none⟩) m c, s0, rune, r0, r1, .int .i64 mn, .int .i64 mx, cp, nm] 36)) (.pointer (some ⟨wr.heap.size, 0, none⟩)) (.int .i64 a) (.bool ok) := by
  obtain ⟨h1, h2, h3⟩ := h.kids (.cells #[.int .u8 18, f, .slice (some ⟨Sb, 0, none⟩) m c, s0, rune, r0, r1, .int .i64 mn, .int .i64 mx, cp, nm] 36)
  refine ⟨_, _, _, rfl, rfl, rfl, ?_, h3⟩
  have e1 : a = (joinR true L m).1 := by rw [hr]
  have e2 : ok = (joinR true L m).2 := by rw [hr]
  rw [e1, e2]
  exact nl_cat (nd_at rfl h.bel.size 18 ..) h1 hm h2
theorem BL.alt {w wr : World} {Sb m c : Nat} {fl : Bool} {x a : Int} {ok : Bool} {L : Nat → Int × Bool} {Q : Nat → Nat} {f s0 rune r0 r1 cp nm : Value} {mn mx : Int} (h : BL w wr Sb m m false x fl L Q) (hm : m ≤ 1024) (hr : joinR false L m = (a, ok)) :
    JR w (wr.alloc (.cells #[.int .u8 19, f, .slice (some ⟨Sb, 0, none⟩) m c, s0, rune, r0, r1, .int .i64 mn, .int .i64 mx, cp, nm] 36)) (.pointer (some ⟨wr.heap.size, 0, none⟩)) (.int .i64 a) (.bool ok) := by
  obtain ⟨h1, h2, h3⟩ := h.kids (.cells #[.int .u8 19, f, .slice (some ⟨Sb, 0, none⟩) m c, s0, rune, r0, r1, .int .i64 mn, .int .i64 mx, cp, nm] 36)
  refine ⟨_, _, _, rfl, rfl, rfl, ?_, h3⟩
  have e1 : a = (joinR false L m).1 := by rw [hr]
  have e2 : ok = (joinR false L m).2 := by rw [hr]
  rw [e1, e2]
  exact nl_alt (nd_at rfl h.bel.size 19 ..) h1 hm h2
theorem InL.below {w w' : World} {a : Option Addr} {m : Nat} {lf : Nat → LF} (h : InL w a m lf) (hb : Below w.heap.size w w') : InL w' a m lf := fun j hj => by
  obtain ⟨b, off, e, c0, c1, c2, c3, hr, rest⟩ := h j hj
  exact ⟨b, off, e, cell_below hb c0, cell_below hb c1, cell_below hb c2, cell_below hb c3, hr.below hb, rest⟩
theorem bl_start {w : World} {m : Nat} (cat : Bool) : BL w (w.alloc (.cells (madeCells #[.pointer none] m) 26)) w.heap.size m 0 cat 0 false (fun _ => (0, false)) (fun _ => 0) :=
  ⟨⟨_, World.rowIs_made w (.pointer none) m 26, fun j hj => by omega⟩, fun j hj => by omega, fun _ => rfl, (fun h => by cases h), (Below.refl _ w).alloc (Nat.le_refl _) _, Nat.le_refl _⟩
def BLR (w wr : World) (m : Nat) (cat : Bool) (gk : Nat) (s9 s12 s13 : Value) : Prop := ∃ (k : Nat) (x : Int) (fl : Bool) (L : Nat → Int × Bool) (Q : Nat → Nat), k ≤ m ∧ gk = m - k ∧ s13 = .int .i64 k ∧ s9 = .int .i64 x ∧ s12 = .bool fl ∧ BL w wr w.heap.size m k cat x fl L Q
theorem BLR.mk {w wr : World} {m k : Nat} {cat fl : Bool} {x : Int} {L : Nat → Int × Bool} {Q : Nat → Nat} {s13 : Value} (hk : k ≤ m) (h13 : s13 = .int .i64 k) (h : BL w wr w.heap.size m k cat x fl L Q) : BLR w wr m cat (m - k) (.int .i64 x) (.bool fl) s13 := ⟨k, x, fl, L, Q, hk, rfl, h13, rfl, rfl, h⟩
theorem info26 : (Yba.prog.info? 26).map (fun i => (i.zero, i.size, i.bytes)) = some (some (.pointer none), 1, 8) := by kernel_rfl
theorem make_subs (W : World) (p : Nat) (h : p ≤ 1024) : (Instr.makeSlice 27 (.int .i64 (p : Int)) (.int .i64 (p : Int))).run Yba.prog W = .ok (.slice (some ⟨W.heap.size, 0, none⟩) p p) (W.alloc (.cells (madeCells #[.pointer none] p) 26)) := by
  obtain ⟨i0, hi, hz0, hz1, hz2⟩ := info_parts info26
  have := run_make (P := Yba.prog) W 27 26 i0 _ Yba.underlying27 hi hz0 .i64 .i64 p p (by omega) (by omega) (by rw [hz2]; omega) (by omega)
  simpa [Value.cells, hz1] using this

set_option maxHeartbeats 4000000 in
set_option maxRecDepth 4000 in
theorem law_any (w : World) (a : Option Addr) (m c top dp : Nat) (lf : Nat → LF) (hL : InL w a m lf) (hm : m ≤ 256) (ht : top < 256) (hd : dp < 256) :
    Calls Yba.prog 3 #[.slice a m c, .int .u8 (top : Int), .int .u8 (dp : Int)] w fun e w' => e = .returned (.bool true) ∧ Below w.heap.size w w' := by
  obtain ⟨q, hq⟩ : ∃ q, top % 3 = q := ⟨_, rfl⟩
  obtain ⟨u, hu⟩ : ∃ u, dp % 4 = u := ⟨_, rfl⟩
  have tq : Int.tmod (top : Int) 3 = (q : Int) := by rw [Int.tmod_eq_emod_of_nonneg (by omega)]; omega
  have tu : Int.tmod (dp : Int) 4 = (u : Int) := by rw [Int.tmod_eq_emod_of_nonneg (by omega)]; omega
  have wq : IntKind.u8.wrap (q : Int) = (q : Int) := by rw [IntKind.wrap_u8]; omega
  have wu : IntKind.u8.wrap (u : Int) = (u : Int) := by rw [IntKind.wrap_u8]; omega
  have wu2 : IntKind.i64.wrap (u : Int) = (u : Int) := by rw [IntKind.wrap_i64]; omega
  have q3 : q < 3 := by omega
  have u4 : u < 4 := by omega
  have e1 : decide ((256 : Int) < (m : Int)) = false := by simp; omega
  have HL := hide hL
  clear hL hq hu
  go_enter Yba.func3, Yba.ntmps3
  go_wp2
  go_loopw [7] (fun s7 wr => w = wr ∧ ∃ k : Nat, k ≤ m ∧ s7 = .int .i64 k ∧ ∀ j, j < k → (lf j).rl ≤ 256) (fun s7 _ => m - (intOf s7).toNat)
  case atStart => exact ⟨rfl, 0, by omega, rfl, fun j hj => by omega⟩
  case round =>
    obtain ⟨rfl, k, hk, rfl, hr⟩ := hrel
    by_cases hkm : k < m
    · obtain ⟨b, off, rfl, -, c1, -⟩ := HL.out k hkm
      have kk : (k : Int) < (m : Int) := by omega
      have kk0 : (0 : Int) ≤ (k : Int) := by omega
      have hwk : IntKind.i64.wrap ((k : Int) + 1) = (k : Int) + 1 := by rw [IntKind.wrap_i64]; omega
      obtain ⟨rl, hrl⟩ : ∃ rl, (lf k).rl = rl := ⟨_, rfl⟩
      rw [hrl] at c1
      have HR := hide hr
      have HK := hide hrl
      clear hr hrl
      by_cases hbig : 256 < rl
      · have e2 : decide ((256 : Int) < (rl : Int)) = true := by simp; omega
        go_wp2
        go_ret
        exact ⟨rfl, Below.refl _ _⟩
      · have e2 : decide ((256 : Int) < (rl : Int)) = false := by simp; omega
        go_wp2
        refine ⟨⟨trivial, k + 1, by omega, by go_num, fun j hj => ?_⟩, by simp [intOf]; omega⟩
        by_cases ej : j = k
        · subst ej; rw [HK.out]; omega
        · exact HR.out j (by omega)
    · have e : m = k := by omega
      subst e
      have HR := hide hr
      clear hr
      go_upto_block 2 with fail
      go_cut [8, 9, 10] from 38 to 100 (fun s8 s9 s10 wx => JR w wx s8 s9 s10)
      case first =>
        rcases (show q = 0 ∨ q = 1 ∨ q = 2 from by omega) with rfl | rfl | rfl
        · have hmk := fun W => make_subs W m (by omega)
          go_wp2
          have HBL := hide (bl_start (w := w) (m := m) true)
          generalize w.alloc (.cells (madeCells #[.pointer none] m) 26) = w0 at HBL ⊢
          go_loopg [9, 12, 13] m (fun gk s9 s12 s13 wr => BLR w wr m true gk s9 s12 s13)
          case atStart => exact BLR.mk (k := 0) (by omega) rfl HBL.out
          case round =>
            obtain ⟨k, x, fl, L, Q, hk, hgk, rfl, rfl, rfl, hBL⟩ := hrel
            clear HBL
            by_cases hkm : k < m
            · obtain ⟨b, off, rfl, c0, c1, c2, c3, hr, hrc, ho, hw⟩ := (HL.out.below hBL.bel) k hkm
              have HC := hide (leaf_any wr (lf k).op (lf k).wp (lf k).rl (lf k).rc (lf k).ra (lf k).mx (lf k).z hr (HR.out k hkm) hrc ho hw)
              obtain ⟨op, hop⟩ : ∃ op, (lf k).op = op := ⟨_, rfl⟩
              obtain ⟨wp, hwp⟩ : ∃ wp, (lf k).wp = wp := ⟨_, rfl⟩
              obtain ⟨rl, hrl⟩ : ∃ rl, (lf k).rl = rl := ⟨_, rfl⟩
              obtain ⟨rc, hrc'⟩ : ∃ rc, (lf k).rc = rc := ⟨_, rfl⟩
              obtain ⟨ra, hra⟩ : ∃ ra, (lf k).ra = ra := ⟨_, rfl⟩
              obtain ⟨mx, hmx⟩ : ∃ mx, (lf k).mx = mx := ⟨_, rfl⟩
              rw [hop, hwp, hrl, hrc', hra, hmx] at HC
              rw [hop] at c0
              rw [hra, hrl, hrc'] at c1
              rw [hwp] at c2
              rw [hmx] at c3
              clear hr hrc ho hw hop hwp hrl hrc' hra hmx
              have kk : (k : Int) < (m : Int) := by omega
              have kk0 : (0 : Int) ≤ (k : Int) := by omega
              have hwk : IntKind.i64.wrap ((k : Int) + 1) = (k : Int) + 1 := by rw [IntKind.wrap_i64]; omega
              have HBL := hide hBL
              clear hBL
              go_upto_if 76 with (go_at_call 4; refine HC.out.mono ?_; rintro e w5 hLR; unfold LeafR at hLR; obtain ⟨P, n, ok, rfl, hn, hb⟩ := hLR; obtain ⟨f, hrow, -⟩ := HBL.out.row; have q5 := (hrow.of_block (hb.block _ hrow.lt)).cell hkm; have q6 := (hrow.of_block (hb.block _ hrow.lt)).frozen k; clear hrow; have HN := hide (And.intro hn hb); clear hn hb)
              clear q5 q6 HC c0 c1 c2 c3
              cases fl with
              | true =>
                go_wp2
                go_roundg (m - (k + 1))
                case measure => omega
                case rel => exact BLR.mk (k := k + 1) (by omega) (by go_num) (HBL.out.step HN.out.1 HN.out.2 (.inl ⟨rfl, rfl⟩))
              | false =>
                cases ok with
                | false =>
                  go_wp2
                  go_roundg (m - (k + 1))
                  case measure => omega
                  case rel => exact BLR.mk (k := k + 1) (by omega) (by go_num) (HBL.out.step HN.out.1 HN.out.2 (.inr (.inl ⟨rfl, rfl, rfl⟩)))
                | true =>
                  obtain ⟨v, hv⟩ : ∃ v, IntKind.i64.wrap (x + n) = v := ⟨_, rfl⟩
                  have HV : Hid (v = comb true x n) := by simp [Hid, comb, hv]
                  go_wp2
                  go_roundg (m - (k + 1))
                  case measure => omega
                  case rel => exact BLR.mk (k := k + 1) (by omega) (by go_num) (HBL.out.step HN.out.1 HN.out.2 (.inr (.inr ⟨rfl, rfl, rfl, HV.out⟩)))
            · have e : m = k := by omega
              subst e
              have HBL := hide hBL
              clear hBL
              cases fl with
              | true =>
                have HJ := hide (join_no (HBL.out.no rfl))
                go_wp2
                go_meet
                case rel => exact HBL.out.cat (by omega) HJ.out
              | false =>
                have HJ := hide (join_ok (HBL.out.ok rfl))
                go_wp2
                go_meet
                case rel => exact HBL.out.cat (by omega) HJ.out
        · have hmk := fun W => make_subs W m (by omega)
          go_wp2
          have HBL := hide (bl_start (w := w) (m := m) false)
          generalize w.alloc (.cells (madeCells #[.pointer none] m) 26) = w0 at HBL ⊢
          go_loopg [9, 12, 13] m (fun gk s9 s12 s13 wr => BLR w wr m false gk s9 s12 s13)
          case atStart => exact BLR.mk (k := 0) (by omega) rfl HBL.out
          case round =>
            obtain ⟨k, x, fl, L, Q, hk, hgk, rfl, rfl, rfl, hBL⟩ := hrel
            clear HBL
            by_cases hkm : k < m
            · obtain ⟨b, off, rfl, c0, c1, c2, c3, hr, hrc, ho, hw⟩ := (HL.out.below hBL.bel) k hkm
              have HC := hide (leaf_any wr (lf k).op (lf k).wp (lf k).rl (lf k).rc (lf k).ra (lf k).mx (lf k).z hr (HR.out k hkm) hrc ho hw)
              obtain ⟨op, hop⟩ : ∃ op, (lf k).op = op := ⟨_, rfl⟩
              obtain ⟨wp, hwp⟩ : ∃ wp, (lf k).wp = wp := ⟨_, rfl⟩
              obtain ⟨rl, hrl⟩ : ∃ rl, (lf k).rl = rl := ⟨_, rfl⟩
              obtain ⟨rc, hrc'⟩ : ∃ rc, (lf k).rc = rc := ⟨_, rfl⟩
              obtain ⟨ra, hra⟩ : ∃ ra, (lf k).ra = ra := ⟨_, rfl⟩
              obtain ⟨mx, hmx⟩ : ∃ mx, (lf k).mx = mx := ⟨_, rfl⟩
              rw [hop, hwp, hrl, hrc', hra, hmx] at HC
              rw [hop] at c0
              rw [hra, hrl, hrc'] at c1
              rw [hwp] at c2
              rw [hmx] at c3
              clear hr hrc ho hw hop hwp hrl hrc' hra hmx
              have kk : (k : Int) < (m : Int) := by omega
              have kk0 : (0 : Int) ≤ (k : Int) := by omega
              have hwk : IntKind.i64.wrap ((k : Int) + 1) = (k : Int) + 1 := by rw [IntKind.wrap_i64]; omega
              have HBL := hide hBL
              clear hBL
              go_upto_if 76 with (go_at_call 4; refine HC.out.mono ?_; rintro e w5 hLR; unfold LeafR at hLR; obtain ⟨P, n, ok, rfl, hn, hb⟩ := hLR; obtain ⟨f, hrow, -⟩ := HBL.out.row; have q5 := (hrow.of_block (hb.block _ hrow.lt)).cell hkm; have q6 := (hrow.of_block (hb.block _ hrow.lt)).frozen k; clear hrow; have HN := hide (And.intro hn hb); clear hn hb)
              clear q5 q6 HC c0 c1 c2 c3
              cases fl with
              | true =>
                go_wp2
                go_roundg (m - (k + 1))
                case measure => omega
                case rel => exact BLR.mk (k := k + 1) (by omega) (by go_num) (HBL.out.step HN.out.1 HN.out.2 (.inl ⟨rfl, rfl⟩))
              | false =>
                cases ok with
                | false =>
                  go_wp2
                  go_roundg (m - (k + 1))
                  case measure => omega
                  case rel => exact BLR.mk (k := k + 1) (by omega) (by go_num) (HBL.out.step HN.out.1 HN.out.2 (.inr (.inl ⟨rfl, rfl, rfl⟩)))
                | true =>
                  by_cases hxn : x < n
                  · have HV : Hid (n = comb false x n) := by simp [Hid, comb, hxn]
                    go_wp2
                    go_roundg (m - (k + 1))
                    case measure => omega
                    case rel => exact BLR.mk (k := k + 1) (by omega) (by go_num) (HBL.out.step HN.out.1 HN.out.2 (.inr (.inr ⟨rfl, rfl, rfl, HV.out⟩)))
                  · have HV : Hid (x = comb false x n) := by simp [Hid, comb, hxn]
                    have e5 : decide (x < n) = false := by simpa using hxn
                    go_wp2
                    go_roundg (m - (k + 1))
                    case measure => omega
                    case rel => exact BLR.mk (k := k + 1) (by omega) (by go_num) (HBL.out.step HN.out.1 HN.out.2 (.inr (.inr ⟨rfl, rfl, rfl, HV.out⟩)))
            · have e : m = k := by omega
              subst e
              have HBL := hide hBL
              clear hBL
              cases fl with
              | true =>
                have HJ := hide (join_no (HBL.out.no rfl))
                go_wp2
                go_meet
                case rel => exact HBL.out.alt (by omega) HJ.out
              | false =>
                have HJ := hide (join_ok (HBL.out.ok rfl))
                go_wp2
                go_meet
                case rel => exact HBL.out.alt (by omega) HJ.out
        · by_cases hm0 : m = 0
          · have e5 : ((m : Int) == 0) = true := by simp [hm0]
            go_wp2
            go_meet
            case rel => exact ⟨_, _, _, rfl, rfl, rfl, nl_other (nd_at rfl (Nat.le_refl _) 2 ..) (.inl rfl), (Below.refl _ w).alloc (Nat.le_refl _) _⟩
          · have e5 : ((m : Int) == 0) = false := by simpa using hm0
            obtain ⟨b, off, rfl, c0, c1, c2, c3, hr, hrc, ho, hw⟩ := HL.out 0 (by omega)
            have HC := hide (leaf_any w (lf 0).op (lf 0).wp (lf 0).rl (lf 0).rc (lf 0).ra (lf 0).mx (lf 0).z hr (HR.out 0 (by omega)) hrc ho hw)
            have kk : (0 : Int) < (m : Int) := by omega
            simp only [Nat.zero_mul, Nat.add_zero] at c0 c1 c2 c3
            clear hr hrc ho hw
            go_wp2_with (go_at_call 4; refine HC.out.mono ?_; rintro e w5 hLR; unfold LeafR at hLR; obtain ⟨P, n, ok, rfl, hn, hb⟩ := hLR; have HN := hide (And.intro hn hb); clear hn hb)
            go_meet
            case rel => exact ⟨P, n, ok, rfl, rfl, rfl, HN.out⟩
      case rest =>
        obtain ⟨P, n, ok, rfl, rfl, rfl, hn, hB⟩ := hcut
        have HN := hide hn
        have HB := hide hB
        clear hn hB
        go_wp2
        go_loopg [8, 17] u (fun gk s8 s17 wr => ∃ (d P : Nat), d ≤ u ∧ gk = u - d ∧ s8 = .pointer (some ⟨P, 0, none⟩) ∧ s17 = .int .i64 d ∧ NLS w.heap.size wr P n ok ∧ Below w.heap.size w wr)
        case atStart => exact ⟨0, P, by omega, by omega, rfl, rfl, HN.out, HB.out⟩
        case round =>
          obtain ⟨d, P, hdu, hgk, rfl, rfl, hn, hB⟩ := hrel
          clear HN HB
          have HN := hide hn
          have HB := hide hB
          clear hn hB
          by_cases hlt : d < u
          · obtain ⟨t, ht2⟩ : ∃ t, d % 2 = t := ⟨_, rfl⟩
            have td : Int.tmod (d : Int) 2 = (t : Int) := by rw [Int.tmod_eq_emod_of_nonneg (by omega)]; omega
            have wt : IntKind.i64.wrap (t : Int) = (t : Int) := by rw [IntKind.wrap_i64]; omega
            have wd : IntKind.i64.wrap ((d : Int) + 1) = (d : Int) + 1 := by rw [IntKind.wrap_i64]; omega
            have dd : (d : Int) < (u : Int) := by omega
            rcases (show t = 0 ∨ t = 1 from by omega) with rfl | rfl
            · clear ht2
              go_wp2_with (go_at_call 5; refine (wrap_nl w.heap.size _ 13 P n ok HB.out.size HN.out (.inl rfl)).mono ?_; rintro _ w5 ⟨P', rfl, hn5, hb5⟩; have HN5 := hide (And.intro hn5 (HB.out.trans (hb5.mono HB.out.size))); clear hn5 hb5)
              go_roundg (u - (d + 1))
              case measure => omega
              case rel => exact ⟨d + 1, P', by omega, rfl, rfl, by go_num, HN5.out⟩
            · clear ht2
              go_wp2_with (go_at_call 5; refine (wrap_nl w.heap.size _ 16 P n ok HB.out.size HN.out (.inr rfl)).mono ?_; rintro _ w5 ⟨P', rfl, hn5, hb5⟩; have HN5 := hide (And.intro hn5 (HB.out.trans (hb5.mono HB.out.size))); clear hn5 hb5)
              go_roundg (u - (d + 1))
              case measure => omega
              case rel => exact ⟨d + 1, P', by omega, rfl, rfl, by go_num, HN5.out⟩
          · have e : u = d := by omega
            subst e
            have HC := hide (HN.out wr ⟨Nat.le_refl _, fun _ _ _ => rfl⟩)
            cases ok with
            | true =>
              go_wp2_with (go_at_call 6; refine HC.out.mono ?_; rintro _ w9 ⟨rfl, h9⟩; rw [h9]; clear h9)
              go_ret
              exact ⟨rfl, HB.out⟩
            | false =>
              go_wp2_with (go_at_call 6; refine HC.out.mono ?_; rintro _ w9 ⟨rfl, h9⟩; rw [h9]; clear h9)
              go_ret
              exact ⟨rfl, HB.out⟩
end Go.Proofs.Ybulkcgxc
