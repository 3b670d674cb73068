import Derived.Test.YbulkcgnkDistances
import Derived.BigQuiet
namespace Go.Proofs.Ybulkcgnk
open Go.RowKit

theorem build_np (w : World) (nd jn len cap n p : Nat) (a : Option Addr) (f : Nat → Nat × Nat) (h1 : nd < 256) (h2 : jn < 256) (hl : len ≤ 1024) (hE : InE w a len f) (hn : nd + 1 = n) (hp : n + jn = p) :
    Calls Yba.prog 5 #[.int .u8 (nd : Int), .int .u8 (jn : Int), .slice a len cap] w fun e w' =>
      ∃ G V, e = .returned (.tuple #[.pointer (some ⟨G, 0, none⟩), .int .i64 (n : Int), .int .i64 (p : Int), V 2, V 3]) ∧ GS w.heap.size G w' n (fun _ => p) V (adjA (Eof f p len)) ∧ Below w.heap.size w w' := by
  subst hn hp
  have e1 : ((nd + 1 : Nat) : Int) = (nd : Int) + 1 := by omega
  have e2 : ((nd + 1 + jn : Nat) : Int) = (nd : Int) + 1 + (jn : Int) := by omega
  rw [e1, e2]
  exact build_any w nd jn len cap a f h1 h2 hl hE

set_option maxHeartbeats 2000000 in
theorem dual_any (w : World) (nd jn len cap v : Nat) (a : Option Addr) (f : Nat → Nat × Nat) (h1 : nd < 256) (h2 : jn < 256) (hl : len ≤ 1024) (hv : v < 65536) (hE : InE w a len f) :
    Calls Yba.prog 4 #[.int .u8 (nd : Int), .int .u8 (jn : Int), .slice a len cap, .int .u16 (v : Int)] w fun e w' => e = .returned (.bool true) ∧ Below w.heap.size w w' := by
  obtain ⟨n, hn⟩ : ∃ n, nd + 1 = n := ⟨_, rfl⟩
  obtain ⟨p, hp⟩ : ∃ p, n + jn = p := ⟨_, rfl⟩
  have hb := build_np w nd jn len cap n p a f h1 h2 hl hE hn hp
  have n0 : 0 < n := by omega
  have np : n ≤ p := by omega
  have hp2 : p ≤ 512 := by omega
  have hEl := Eof_len f p len
  have HE : Hid (∀ e, e ∈ Eof f p len → e.1 < p ∧ e.2 < p) := Eof_lt (by omega)
  have HB := hide hb
  have e1 : decide (1024 < len) = false := by simp; omega
  have wv : IntKind.i64.wrap (v : Int) = (v : Int) := by rw [IntKind.wrap_i64]; omega
  have nz : ((n : Int) == 0) = false := by simp; omega
  obtain ⟨u, hu⟩ : ∃ u, u = v % n := ⟨_, rfl⟩
  have hun : u < n := hu ▸ Nat.mod_lt _ n0
  have tu : Int.tmod (v : Int) (n : Int) = (u : Int) := by rw [hu, Int.tmod_eq_emod_of_nonneg (by omega)]; omega
  have wu : IntKind.i64.wrap (u : Int) = (u : Int) := by rw [IntKind.wrap_i64]; omega
  clear hb hE hu hn hp
  go_enter Yba.func4, Yba.ntmps4
  go_wp2_with (first
    | (go_at_call 5; refine HB.out.mono ?_; rintro _ w1 ⟨G, V, rfl, hG, hB1⟩; have HG := hide hG; have HB1 := hide hB1; clear hG hB1)
    | (go_at_call 6; refine (distances_any _ _ _ _ p u _ _ true HG.out HE.out (by omega) hp2 (by omega)).mono ?_; rintro _ w2 ⟨D, rfl, hrow, hD, hB2⟩; have HR := hide hrow; have HD := hide hD; have HB2 := hide hB2; clear hrow hD hB2))
  have HG2 : Hid (GS w.heap.size G w2 n (fun _ => p) V (adjA (Eof f p len))) := HG.out.below HB2.out (Nat.le_refl _)
  have HBB : Hid (Below w.heap.size w w2) := HB1.out.trans (HB2.out.mono HB1.out.size)
  generalize w1.heap.size + 1 = d at HR ⊢
  clear HG HB1 HB2 HB
  go_loopw [16] (fun s16 wr => ∃ k : Nat, k ≤ n ∧ s16 = .int .i64 k ∧ GS w.heap.size G wr n (fun _ => p) V (adjA (Eof f p len)) ∧ wr.rowIs d 3 p (ints D) ∧ Below w.heap.size w wr) (fun s16 _ => n - (intOf s16).toNat)
  case atStart => exact ⟨0, by omega, rfl, HG2.out, HR.out, HBB.out⟩
  case round =>
    obtain ⟨k, hk, rfl, hG, hrow, hB⟩ := hrel
    clear HG2 HR HBB
    by_cases hkn : k < n
    · have kk : (k : Int) < (n : Int) := by omega
      have kp : (k : Int) < (p : Int) := by omega
      have up : (u : Int) < (p : Int) := by omega
      have k0 : (0 : Int) ≤ (k : Int) := by omega
      have u0 : (0 : Int) ≤ (u : Int) := by omega
      have hwk : IntKind.i64.wrap ((k : Int) + 1) = (k : Int) + 1 := by rw [IntKind.wrap_i64]; omega
      have HG := hide hG
      have HR := hide hrow
      have HB := hide hB
      clear hG hrow hB
      go_wp2_with (go_at_call 6; refine (distances_any _ _ _ _ p k _ _ false HG.out HE.out (by omega) hp2 (by omega)).mono ?_; rintro _ w3 ⟨D', rfl, hrow', hD', hB3⟩; have q1 := hrow'.cell (show u < p by omega); have hr3 := HR.out.of_block (hB3.block _ HR.out.lt); have q2 := hr3.cell (show k < p by omega); have HQ := hide (And.intro (HG.out.below hB3 (Nat.le_refl _)) (And.intro hr3 (HB.out.trans (hB3.mono HB.out.size)))); simp only [ints] at q1 q2; rw [dual HD.out hD' (by omega) (by omega)] at q1; clear hrow' hD' hB3 hr3)
      go_quiet (fail)
      go_wp2
      have hq := HQ.out
      exact ⟨⟨k + 1, by omega, by go_num, hq.1.drewN _, hq.2.1.of_block rfl, ⟨hq.2.2.os, hq.2.2.tape, hq.2.2.output, hq.2.2.size, hq.2.2.block⟩⟩, by simp [intOf]; omega⟩
    · have e : n = k := by omega
      subst e
      have HB := hide hB
      clear hG hrow hB
      go_wp2
      go_ret
      exact ⟨rfl, HB.out⟩
end Go.Proofs.Ybulkcgnk
