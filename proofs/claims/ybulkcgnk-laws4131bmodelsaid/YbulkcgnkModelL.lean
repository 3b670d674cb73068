import Derived.Test.YbulkcgnkDual
import Derived.Test.YbulkcgnkModelW
namespace Go.Proofs.Ybulkcgnk
open Go.RowKit

theorem ends_of {B G n p : Nat} {w : World} {V : Nat → Value} {E : List (Nat × Nat)} (h : GS B G w n (fun _ => p) V (adjA E)) : ∃ fa fc ta tc, V 2 = .slice fa E.length fc ∧ V 3 = .slice ta E.length tc ∧ EndsAt w fa ta E := by
  obtain ⟨fa, fc, e2, _, h2⟩ := owns_form (h.row 2 (by omega))
  obtain ⟨ta, tc, e3, _, h3⟩ := owns_form (h.row 3 (by omega))
  have l2 : (adjA E 2).length = E.length := by simp [adjA]
  have l3 : (adjA E 3).length = E.length := by simp [adjA]
  rw [l2] at e2
  rw [l3] at e3
  refine ⟨fa, fc, ta, tc, e2, e3, fun i e he => ?_⟩
  obtain ⟨fb, hf, _, _, cf⟩ := h2 i (.int .i64 (e.1 : Int)) (vals_get (by simp [adjA, he]))
  obtain ⟨tb, ht, _, _, ct⟩ := h3 i (.int .i64 (e.2 : Int)) (vals_get (by simp [adjA, he]))
  exact ⟨fb, tb, hf, ht, cf, ct⟩
theorem EndsAt.below {w w' : World} {fa ta : Option Addr} {E : List (Nat × Nat)} (h : EndsAt w fa ta E) (hb : Below w.heap.size w w') : EndsAt w' fa ta E := by
  intro i e he
  obtain ⟨fb, tb, h1, h2, c1, c2⟩ := h i e he
  exact ⟨fb, tb, h1, h2, (hb.cell (p := ⟨fb, i, none⟩) (World.block_lt_of_cell? w _ c1)).trans c1, (hb.cell (p := ⟨tb, i, none⟩) (World.block_lt_of_cell? w _ c2)).trans c2⟩

set_option maxHeartbeats 2000000 in
theorem modelL_any (w : World) (nd jn len cap v : Nat) (a : Option Addr) (f : Nat → Nat × Nat) (fwd : Bool) (h1 : nd < 256) (h2 : jn < 256) (hl : len ≤ 1024) (hv : v < 65536) (hE : InE w a len f) :
    Calls Yba.prog 3 #[.int .u8 (nd : Int), .int .u8 (jn : Int), .slice a len cap, .int .u16 (v : Int), .bool fwd] w fun e w' => e = .returned (.bool true) ∧ Below w.heap.size w w' := by
  obtain ⟨n, hn⟩ : ∃ n, nd + 1 = n := ⟨_, rfl⟩
  obtain ⟨p, hp⟩ : ∃ p, n + jn = p := ⟨_, rfl⟩
  have hb := build_np w nd jn len cap n p a f h1 h2 hl hE hn hp
  have n0 : 0 < n := by omega
  have np : n ≤ p := by omega
  have hp2 : p ≤ 512 := by omega
  have hEl := Eof_len f p len
  have HE : Hid (∀ e, e ∈ Eof f p len → e.1 < p ∧ e.2 < p) := Eof_lt (by omega)
  have HB := hide hb
  have e1 : decide (1024 < len) = false := by simp; omega
  have wv : IntKind.i64.wrap (v : Int) = (v : Int) := by rw [IntKind.wrap_i64]; omega
  have nz : ((n : Int) == 0) = false := by simp; omega
  obtain ⟨u, hu⟩ : ∃ u, u = v % n := ⟨_, rfl⟩
  have hun : u < n := hu ▸ Nat.mod_lt _ n0
  have tu : Int.tmod (v : Int) (n : Int) = (u : Int) := by rw [hu, Int.tmod_eq_emod_of_nonneg (by omega)]; omega
  have wu : IntKind.i64.wrap (u : Int) = (u : Int) := by rw [IntKind.wrap_i64]; omega
  clear hb hE hu hn hp
  go_enter Yba.func3, Yba.ntmps3
  go_wp2_with (first
    | (go_at_call 5; refine HB.out.mono ?_; rintro _ w1 ⟨G, V, rfl, hG, hB1⟩; obtain ⟨fa, fc, ta, tc, eV2, eV3, hends⟩ := ends_of hG; rw [hEl] at eV2 eV3; rw [eV2, eV3]; have HG := hide hG; have HB1 := hide hB1; have HN := hide hends; clear hG hB1 hends eV2 eV3)
    | (go_at_call 6; refine (distances_any _ _ _ _ p u _ _ fwd HG.out HE.out (by omega) hp2 (by omega)).mono ?_; rintro _ w2 ⟨D, rfl, hrow, hD, hB2⟩; have HR := hide hrow; have HD := hide hD; have HB2 := hide hB2; clear hrow hD hB2)
    | (go_at_call 7; refine (model_any _ n p u fc tc len fa ta _ fwd D HD.out HE.out (by omega) hp2 hEl hl (HN.out.below HB2.out)).mono ?_; rintro _ w3 ⟨rfl, hrow3, hB3⟩; have HR3 := hide (And.intro (HR.out.of_block (hB3.block _ HR.out.lt)) hrow3); have HB3 : Hid (Below w.heap.size w w3) := (HB1.out.trans (HB2.out.mono HB1.out.size)).trans (hB3.mono (Nat.le_trans HB1.out.size HB2.out.size)); clear hrow3 hB3))
  clear HR HB1 HB2 HB HG HN
  generalize w1.heap.size + 1 = d at HR3 ⊢
  generalize w2.heap.size = d2 at HR3 ⊢
  go_loopw [55] (fun s55 wr => ∃ k : Nat, k ≤ p ∧ s55 = .int .i64 k ∧ wr.rowIs d 3 p (ints D) ∧ wr.rowIs d2 3 p (ints D) ∧ Below w.heap.size w wr) (fun s55 _ => p - (intOf s55).toNat)
  case atStart => exact ⟨0, by omega, rfl, HR3.out.1, HR3.out.2, HB3.out⟩
  case round =>
    obtain ⟨k, hk, rfl, r1, r2, hB⟩ := hrel
    clear HR3 HB3
    by_cases hkp : k < p
    · have kk : (k : Int) < (p : Int) := by omega
      have k0 : (0 : Int) ≤ (k : Int) := by omega
      have hwk : IntKind.i64.wrap ((k : Int) + 1) = (k : Int) + 1 := by rw [IntKind.wrap_i64]; omega
      have q1 := r1.cell hkp
      have q2 := r2.cell hkp
      simp only [ints] at q1 q2
      have HQ := hide (And.intro r1 (And.intro r2 hB))
      clear r1 r2 hB
      go_wp2
      go_quiet (fail)
      go_wp2
      have hq := HQ.out
      exact ⟨⟨k + 1, by omega, by go_num, hq.1.of_block rfl, hq.2.1.of_block rfl, ⟨hq.2.2.os, hq.2.2.tape, hq.2.2.output, hq.2.2.size, hq.2.2.block⟩⟩, by simp [intOf]; omega⟩
    · have e : p = k := by omega
      subst e
      have HB := hide hB
      clear r1 r2 hB
      go_wp2
      go_ret
      exact ⟨rfl, HB.out⟩
end Go.Proofs.Ybulkcgnk
