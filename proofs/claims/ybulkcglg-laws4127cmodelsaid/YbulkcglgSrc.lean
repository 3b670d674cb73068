import Derived.Test.YbulkcglgMem
import Derived.Test.YbulkcglgRows
import Derived.RangeFuncNested
import Derived.RangeFuncBound
import Derived.RangeFuncCalls
import Derived.RangeFuncLeaves
import Derived.OwnWalkIn
import Derived.TacticsInMore
import Derived.LoopNIn
import Derived.LoopIn
namespace Go.Proofs.Ybulkcglg
open Go.RowKit
attribute [local go_sem] Oper.semAt_some

set_option maxHeartbeats 400000 in
theorem src_in (l Bx Bp len cap : Nat) (a : Option Addr) (z : Nat → Int) (J Jx : Nat → World → Prop) (hlen : len ≤ 1024)
    (hJ : ∀ k W, J k W → W.cell? ⟨Bx, 0, none⟩ = some (.slice a len cap) ∧ W.cell? ⟨Bp, 0, none⟩ = some (.int .i64 k) ∧ W.frozen? ⟨Bp, 0, none⟩ = false ∧
      (∀ j, j < len → ∃ b off, a = some ⟨b, off, none⟩ ∧ W.cell? ⟨b, off + j, none⟩ = some (.int .i8 (z j))))
    (hY : ∀ k W, k < len → J k W → YieldAt Fence.wide 0 Yba.prog l #[.int .i8 (z k)] (W.setCell ⟨Bp, 0, none⟩ (.int .i64 ((k : Int) + 1))) fun e W' =>
      (e = .returned (.bool true) ∧ J (k + 1) W') ∨ (e = .returned (.bool false) ∧ Jx (k + 1) W'))
    (W : World) (h0 : J 0 W) :
    CallsIn Fence.wide 0 Yba.prog 10 #[.func (.yield l) #[] #[], .pointer (some ⟨Bx, 0, none⟩), .pointer (some ⟨Bp, 0, none⟩)] W fun e W' => (∃ v, e = .returned v) ∧
      (J len W' ∨ ∃ k, 1 ≤ k ∧ k ≤ len ∧ Jx k W') := by
  have hx := (hJ 0 W h0).1
  refine callsIn_of_wp Yba.func10 rfl trivial ?_ rfl
  simp only [Yba.ntmps10, List.size_toArray, List.length_cons, List.length_nil, Nat.reduceAdd, Nat.reduceSub, Array.replicate_succ, Array.replicate_zero, List.push_toArray, List.append_toArray, List.nil_append, List.cons_append]
  gi_wp2
  gi_loopw [8] (fun i wr => ∃ k : Nat, k ≤ len ∧ i = .int .i64 k ∧ J k wr) (fun i _ => len - (intOf i).toNat)
  case atStart => exact ⟨0, by omega, rfl, h0⟩
  case round =>
    obtain ⟨k, hk, rfl, hJk⟩ := hrel
    obtain ⟨c0, c1, c2, c3⟩ := hJ k wr hJk
    by_cases hlt : k < len
    · obtain ⟨b, off, rfl, hz⟩ := c3 k hlt
      obtain ⟨fn, tmps, assign, body, hy, hR⟩ := hY k wr hlt hJk
      have ki : (k : Int) < (len : Int) := by omega
      have ki0 : (0 : Int) ≤ (k : Int) := by omega
      clear hJ hY c3
      gi_wp2
      refine ⟨rfl, hR.mono ?_⟩
      rintro e W3 (⟨rfl, h3⟩ | ⟨rfl, h3⟩)
      · gi_wp2
        go_roundw
        case rel => exact ⟨k + 1, by omega, by go_num, h3⟩
        case measure => simp [intOf]; omega
      · gi_wp2
        refine bodyPost_ret (results_none rfl _ _ _) rfl ?_
        exact ⟨⟨_, rfl⟩, .inr ⟨k + 1, by omega, by omega, h3⟩⟩
    · have e : k = len := by omega
      subst e
      clear hJ hY c3
      gi_wp2
      refine bodyPost_end (results_none rfl _ _ _) rfl ?_
      exact ⟨⟨_, rfl⟩, .inl hJk⟩
end Go.Proofs.Ybulkcglg
