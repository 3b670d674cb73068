import Derived.Test.YbulkcgnkRows
import Derived.Test.YbulkcgnkRow
import Derived.WalkSpells
import Derived.WalkLawsBesides
import Derived.Deep.CutRange
namespace Go.Proofs.Ybulkcgnk
open Go.RowKit

theorem info3 : (Yba.prog.info? 3).map (fun i => (i.zero, i.size, i.bytes)) = some (some (.int .i64 0), 1, 8) := by kernel_rfl
theorem make_ints (W : World) (p : Nat) (h : p ≤ 1024) : (Instr.makeSlice 25 (.int .i64 (p : Int)) (.int .i64 (p : Int))).run Yba.prog W = .ok (.slice (some ⟨W.heap.size, 0, none⟩) p p) (W.alloc (.cells (madeCells #[.int .i64 0] p) 3)) := by
  obtain ⟨i0, hi, hz0, hz1, hz2⟩ := info_parts info3
  have := run_make (P := Yba.prog) W 25 3 i0 _ Yba.underlying25 hi hz0 .i64 .i64 p p (by omega) (by omega) (by rw [hz2]; omega) (by omega)
  simpa [Value.cells, hz1] using this

set_option maxHeartbeats 2000000 in
set_option maxRecDepth 4000 in
theorem model_any (w : World) (n p v fc tc len : Nat) (fa ta : Option Addr) (E : List (Nat × Nat)) (fwd : Bool) (D : Nat → Int) (hD : IsDist n p E fwd v D) (hE : ∀ e, e ∈ E → e.1 < p ∧ e.2 < p) (hv : v < p) (hp : p ≤ 512) (hl : E.length = len) (hl' : len ≤ 1024)
    (hF : EndsAt w fa ta E) :
    Calls Yba.prog 7 #[.int .i64 (n : Int), .int .i64 (p : Int), .slice fa len fc, .slice ta len tc, .int .i64 (v : Int), .bool fwd] w fun e w' =>
      e = .returned (.slice (some ⟨w.heap.size, 0, none⟩) p p) ∧ w'.rowIs w.heap.size 3 p (ints D) ∧ Below w.heap.size w w' := by
  have hmk := make_ints w p (by omega)
  have HD : Hid (IsDist n p E fwd v D) := hD
  have HE : Hid (∀ e, e ∈ E → e.1 < p ∧ e.2 < p) := hE
  have HF : Hid (EndsAt w fa ta E) := hF
  clear hD hE hF
  go_enter Yba.func7, Yba.ntmps7
  go_wp2
  have H0 : Hid ((w.alloc (.cells (madeCells #[.int .i64 0] p) 3)).rowIs w.heap.size 3 p (ints fun x => if x < 0 then -1 else 0) ∧ Below w.heap.size w (w.alloc (.cells (madeCells #[.int .i64 0] p) 3))) :=
    ⟨(World.rowIs_made w (.int .i64 0) p 3).congr fun x _ => by simp [ints], (Below.refl _ _).alloc (Nat.le_refl _) _⟩
  generalize w.alloc (.cells (madeCells #[.int .i64 0] p) 3) = w0 at H0 ⊢
  go_loopw [28] (fun s28 wr => ∃ (i : Nat), i ≤ p ∧ s28 = .int .i64 i ∧ wr.rowIs w.heap.size 3 p (ints fun x => if x < i then -1 else 0) ∧ Below w.heap.size w wr) (fun s28 _ => p - (intOf s28).toNat)
  case atStart => exact ⟨0, by omega, rfl, H0.out⟩
  case round =>
    obtain ⟨i, hi, rfl, hrow, hB⟩ := hrel
    clear H0
    by_cases hlt : i < p
    · have c0 := hrow.cell hlt
      have c1 := hrow.frozen i
      have ii : (i : Int) < (p : Int) := by omega
      have ii0 : (0 : Int) ≤ (i : Int) := by omega
      have HR : Hid (wr.rowIs w.heap.size 3 p (ints fun x => if x < i then -1 else 0) ∧ Below w.heap.size w wr) := ⟨hrow, hB⟩
      clear hrow hB
      go_wp2
      go_roundw
      case rel =>
        refine ⟨i + 1, by omega, by go_num, (ints_upd HR.out.1 i (-1)).congr fun x _ => ?_, HR.out.2.setCell (p := ⟨w.heap.size, i, none⟩) (by simp) _⟩
        simp only [ints, updI]
        by_cases e : x = i
        · subst e; simp
        · have : (x < i + 1) = (x < i) := by simp; omega
          simp [e, this]
      case measure => simp [intOf]; omega
    · have e : p = i := by omega
      subst e
      have hrow : wr.rowIs w.heap.size 3 p (ints fun _ => -1) := hrow.congr fun x hx => by simp [ints, hx]
      have c0 := hrow.cell hv
      have c1 := hrow.frozen v
      have vi : (v : Int) < (p : Int) := by omega
      have HR : Hid (wr.rowIs w.heap.size 3 p (ints fun _ => -1) ∧ Below w.heap.size w wr) := ⟨hrow, hB⟩
      clear hrow hB
      go_wp2
      have H1 : Hid (FB n p E fwd v (updI (fun _ => -1) v 0) ∧ (wr.setCell ⟨w.heap.size, v, none⟩ (.int .i64 0)).rowIs w.heap.size 3 p (ints (updI (fun _ => -1) v 0)) ∧ Below w.heap.size w (wr.setCell ⟨w.heap.size, v, none⟩ (.int .i64 0))) :=
        ⟨fb_start hv, ints_upd HR.out.1 v 0, HR.out.2.setCell (p := ⟨w.heap.size, v, none⟩) (by simp) _⟩
      clear HR c0 c1
      generalize wr.setCell ⟨w.heap.size, v, none⟩ (.int .i64 0) = w1 at H1 ⊢
      go_loopw [15] (fun s15 wr => ∃ (k : Nat) (r : Nat → Int), k ≤ p + 1 ∧ s15 = .int .i64 k ∧ FB n p E fwd v r ∧ (∀ x, x < p → r x ≤ (k * 1024 : Nat)) ∧ offN r D p ≤ p - k ∧ wr.rowIs w.heap.size 3 p (ints r) ∧ Below w.heap.size w wr) (fun s15 _ => p + 1 - (intOf s15).toNat)
      case atStart => exact ⟨0, _, by omega, rfl, H1.out.1, fun x _ => by simp only [updI]; split <;> omega, offN_le _ _ _, H1.out.2⟩
      case round =>
        obtain ⟨k, r0, hk, rfl, hFB, hup, hoff, hrow, hB⟩ := hrel
        clear H1
        by_cases hkp : k ≤ p
        · have kp : (k : Int) ≤ (p : Int) := by omega
          have HR : Hid (FB n p E fwd v r0 ∧ (∀ x, x < p → r0 x ≤ (k * 1024 : Nat)) ∧ offN r0 D p ≤ p - k) := ⟨hFB, hup, hoff⟩
          have HW : Hid (wr.rowIs w.heap.size 3 p (ints r0) ∧ Below w.heap.size w wr) := ⟨hrow, hB⟩
          clear hFB hup hoff hrow hB
          go_wp2
          go_loopw [16, 17] (fun s16 s17 wr => ∃ (i : Nat) (ch : Bool) (r : Nat → Int), i ≤ len ∧ s16 = .bool ch ∧ s17 = .int .i64 i ∧ FI n p E fwd v r0 i ch r ∧ (∀ x, x < p → r x ≤ (k * 1024 + i : Nat)) ∧ wr.rowIs w.heap.size 3 p (ints r) ∧ Below w.heap.size w wr) (fun _ s17 _ => len - (intOf s17).toNat)
          case atStart => exact ⟨0, false, r0, by omega, rfl, rfl, HR.out.1.round, fun x hx => HR.out.2.1 x hx, HW.out⟩
          case round =>
            obtain ⟨j, ch, r, hj, rfl, rfl, hFI, hup, hrow, hB⟩ := hrel
            clear HW
            by_cases hjl : j < len
            · obtain ⟨e, he⟩ : ∃ e, E[j]? = some e := ⟨_, List.getElem?_eq_getElem (by omega)⟩
              obtain ⟨fb, tb, rfl, rfl, f0, t0⟩ := HF.out j e he
              have hel := HE.out e (List.mem_of_getElem? he)
              have hfb : fb < w.heap.size := World.block_lt_of_cell? w _ f0
              have htb : tb < w.heap.size := World.block_lt_of_cell? w _ t0
              have f1 : wr.cell? ⟨fb, j, none⟩ = some (.int .i64 (e.1 : Int)) := (hB.cell (p := ⟨fb, j, none⟩) hfb).trans f0
              have t1 : wr.cell? ⟨tb, j, none⟩ = some (.int .i64 (e.2 : Int)) := (hB.cell (p := ⟨tb, j, none⟩) htb).trans t0
              have jj : (j : Int) < (len : Int) := by omega
              have jj0 : (0 : Int) ≤ (j : Int) := by omega
              have a0 : (e.1 : Int) < (p : Int) := by omega
              have a1 : (e.2 : Int) < (p : Int) := by omega
              have hs : esrc fwd e < p := by cases fwd <;> simp [esrc] <;> omega
              have hd : edst fwd e < p := by cases fwd <;> simp [edst] <;> omega
              have g0 := hrow.cell hs
              have g1 := hrow.cell hd
              have g2 := hrow.frozen (edst fwd e)
              have hrs := hup _ hs
              have hrl := hFI.b.low _ hs
              simp only [ints] at g0 g1
              have HI : Hid (FI n p E fwd v r0 j ch r ∧ (∀ x, x < p → r x ≤ (k * 1024 + j : Nat)) ∧ wr.rowIs w.heap.size 3 p (ints r) ∧ Below w.heap.size w wr) := ⟨hFI, hup, hrow, hB⟩
              clear hFI hup hrow hB f0 t0
              have hsi : ((esrc fwd e : Nat) : Int) < (p : Int) := by omega
              have hdi : ((edst fwd e : Nat) : Int) < (p : Int) := by omega
              go_upto_if 60 with fail
              go_cut [20, 21] from 43 to 93 (fun s20 s21 wx => Value.int .i64 (esrc fwd e : Int) = s20 ∧ Value.int .i64 (edst fwd e : Int) = s21 ∧ wr = wx)
              case first =>
                clear g0 g1 g2
                cases fwd with
                | true =>
                  go_wp2
                  go_meet
                  case rel => exact ⟨rfl, rfl, rfl⟩
                | false =>
                  go_wp2
                  go_meet
                  case rel => exact ⟨rfl, rfl, rfl⟩
              case rest =>
                obtain ⟨rfl, rfl, rfl⟩ := hcut
                by_cases hneg : 0 ≤ r (esrc fwd e)
                · have hnl : decide (r (esrc fwd e) < 0) = false := by simp; omega
                  have hcost : cost n e = if e.2 < n then 1 else 0 := rfl
                  have hw1 : IntKind.i64.wrap (r (esrc fwd e) + (cost n e : Int)) = r (esrc fwd e) + (cost n e : Int) := by
                    have : cost n e ≤ 1 := by rw [hcost]; split <;> omega
                    rw [IntKind.wrap_i64]; omega
                  go_upto_if 70 with fail
                  go_cut [22] from 43 to 93 (fun s22 wx => Value.int .i64 (cost n e : Int) = s22 ∧ wr = wx)
                  case first =>
                    by_cases hbn : e.2 < n
                    · have hb1 : (e.2 : Int) < (n : Int) := by omega
                      rw [if_pos hbn] at hcost
                      clear hw1
                      go_wp2
                      go_meet
                      case rel => exact ⟨by rw [hcost]; rfl, rfl⟩
                    · have hb1 : decide ((e.2 : Int) < (n : Int)) = false := by simp; omega
                      rw [if_neg hbn] at hcost
                      clear hw1
                      go_wp2
                      go_meet
                      case rel => exact ⟨by rw [hcost]; rfl, rfl⟩
                  case rest =>
                    obtain ⟨rfl, rfl⟩ := hcut
                    have hcl : cost n e ≤ 1 := by rw [hcost]; split <;> omega
                    clear hcost
                    by_cases hd0 : 0 ≤ r (edst fwd e)
                    · have hdl : decide (r (edst fwd e) < 0) = false := by simp; omega
                      by_cases hlt : r (esrc fwd e) + (cost n e : Int) < r (edst fwd e)
                      · have HQ : Hid (FI n p E fwd v r0 (j + 1) true (updI r (edst fwd e) (r (esrc fwd e) + cost n e)) ∧ (∀ x, x < p → updI r (edst fwd e) (r (esrc fwd e) + cost n e) x ≤ (k * 1024 + (j + 1) : Nat)) ∧ (wr.setCell ⟨w.heap.size, edst fwd e, none⟩ (.int .i64 (r (esrc fwd e) + cost n e))).rowIs w.heap.size 3 p (ints (updI r (edst fwd e) (r (esrc fwd e) + cost n e))) ∧ Below w.heap.size w (wr.setCell ⟨w.heap.size, edst fwd e, none⟩ (.int .i64 (r (esrc fwd e) + cost n e)))) :=
                          ⟨HI.out.1.turn he HE.out hneg (.inr hlt), fun x hx => by have := HI.out.2.1 x hx; simp only [updI]; split <;> omega, ints_upd HI.out.2.2.1 _ _, HI.out.2.2.2.setCell (p := ⟨w.heap.size, edst fwd e, none⟩) (by simp) _⟩
                        clear HI
                        go_wp2
                        exact ⟨⟨j + 1, true, _, by omega, rfl, by go_num, HQ.out⟩, by simp [intOf]; omega⟩
                      · have hlt' : decide (r (esrc fwd e) + (cost n e : Int) < r (edst fwd e)) = false := by simp; omega
                        have HQ : Hid (FI n p E fwd v r0 (j + 1) ch r) := HI.out.1.stay he HE.out hd0 hlt
                        clear hlt
                        go_wp2
                        exact ⟨⟨j + 1, ch, r, by omega, rfl, by go_num, HQ.out, fun x hx => by have := HI.out.2.1 x hx; omega, HI.out.2.2⟩, by simp [intOf]; omega⟩
                    · have hdl : r (edst fwd e) < 0 := by omega
                      have HQ : Hid (FI n p E fwd v r0 (j + 1) true (updI r (edst fwd e) (r (esrc fwd e) + cost n e)) ∧ (∀ x, x < p → updI r (edst fwd e) (r (esrc fwd e) + cost n e) x ≤ (k * 1024 + (j + 1) : Nat)) ∧ (wr.setCell ⟨w.heap.size, edst fwd e, none⟩ (.int .i64 (r (esrc fwd e) + cost n e))).rowIs w.heap.size 3 p (ints (updI r (edst fwd e) (r (esrc fwd e) + cost n e))) ∧ Below w.heap.size w (wr.setCell ⟨w.heap.size, edst fwd e, none⟩ (.int .i64 (r (esrc fwd e) + cost n e)))) :=
                        ⟨HI.out.1.turn he HE.out hneg (.inl hd0), fun x hx => by have := HI.out.2.1 x hx; simp only [updI]; split <;> omega, ints_upd HI.out.2.2.1 _ _, HI.out.2.2.2.setCell (p := ⟨w.heap.size, edst fwd e, none⟩) (by simp) _⟩
                      clear HI
                      go_wp2
                      exact ⟨⟨j + 1, true, _, by omega, rfl, by go_num, HQ.out⟩, by simp [intOf]; omega⟩
                · have hn : r (esrc fwd e) < 0 := by omega
                  have HQ : Hid (FI n p E fwd v r0 (j + 1) ch r) := HI.out.1.dead he HE.out hneg
                  clear hneg hrl hrs
                  go_wp2
                  exact ⟨⟨j + 1, ch, r, by omega, rfl, by go_num, HQ.out, fun x hx => by have := HI.out.2.1 x hx; omega, HI.out.2.2⟩, by simp [intOf]; omega⟩
            · have e : j = len := by omega
              have jn : ¬ ((j : Int) < (len : Int)) := by omega
              cases ch with
              | false =>
                have HQ : Hid (wr.rowIs w.heap.size 3 p (ints D) ∧ Below w.heap.size w wr) := ⟨hrow.congr fun x hx => by simp only [ints]; rw [(hFI.quiet HE.out (by omega)).unique HD.out hx], hB⟩
                clear hFI hup hrow hB
                go_wp2
                go_ret
                exact ⟨rfl, HQ.out⟩
              | true =>
                have HQ : Hid (FB n p E fwd v r ∧ (∀ x, x < p → r x ≤ ((k + 1) * 1024 : Nat)) ∧ offN r D p ≤ p - (k + 1) ∧ wr.rowIs w.heap.size 3 p (ints r) ∧ Below w.heap.size w wr) :=
                  ⟨hFI.b, fun x hx => by have := hup x hx; omega, by have := FI.gain HR.out.1 hFI HD.out HE.out (by omega); have := HR.out.2.2; omega, hrow, hB⟩
                clear hFI hup hrow hB
                go_wp2
                exact ⟨⟨k + 1, r, by omega, by go_num, HQ.out⟩, by simp [intOf]; omega⟩
        · have kp : ¬ ((k : Int) ≤ (p : Int)) := by omega
          have HQ : Hid (wr.rowIs w.heap.size 3 p (ints D) ∧ Below w.heap.size w wr) := ⟨hrow.congr fun x hx => by simp only [ints]; rw [offN_zero p (show offN r0 D p = 0 by omega) x hx], hB⟩
          clear hFB hup hoff hrow hB
          go_wp2
          go_ret
          exact ⟨rfl, HQ.out⟩
end Go.Proofs.Ybulkcgnk
