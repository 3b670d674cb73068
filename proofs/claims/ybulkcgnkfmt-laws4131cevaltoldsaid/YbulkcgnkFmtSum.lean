import Derived.Test.YbulkcgnkFmtFacts
namespace Go.Proofs.YbulkcgnkFmt
open Go.RowKit Go.Extern.Stop Go.Stop Go.Extern

/-- An int64. -/
def I64 (x : Int) : Prop := -9223372036854775808 ≤ x ∧ x ≤ 9223372036854775807

/-- Sum.Int64, the sum fitting. -/
theorem int64_fit (N : Int) (w : World) :
    Calls Ybaf.prog 10 #[.agg #[.int .i64 N, .int .i64 0]] w fun e w' => e = .returned (.tuple #[.int .i64 N, .nilIface]) ∧ Below w.heap.size w w' := by
  go_enter Ybaf.func10, Ybaf.ntmps10
  go_wp2
  go_ret2
  exact ⟨rfl, (Below.refl _ _).alloc (Nat.le_refl _) _⟩
/-- .. and not. -/
theorem int64_big (F : Interp) (N W : Int) (w : World) (hF : F.answers w.tape) (hW : 0 < W) :
    Calls Ybaf.prog 10 #[.agg #[.int .i64 N, .int .i64 W]] w fun e w' => (∃ p, e = .returned (.tuple #[.int .i64 0, .iface 54 (.pointer (some p))])) ∧ Below w.heap.size w w' := by
  go_enter Ybaf.func10, Ybaf.ntmps10
  go_wp2_with (go_at_call 11; refine (errorf_more F 9223372036854775807 _ _ (by exact hF) (by simp)).mono ?_; rintro _ w2 ⟨rfl, hB⟩)
  go_ret2
  exact ⟨⟨_, rfl⟩, ((Below.refl _ w).alloc (Nat.le_refl _) _ |>.alloc (by simp) _).trans (hB.mono (by simp; omega))⟩
theorem int64_small (F : Interp) (N W : Int) (w : World) (hF : F.answers w.tape) (hW : W < 0) :
    Calls Ybaf.prog 10 #[.agg #[.int .i64 N, .int .i64 W]] w fun e w' => (∃ p, e = .returned (.tuple #[.int .i64 0, .iface 54 (.pointer (some p))])) ∧ Below w.heap.size w w' := by
  have e1 : decide (0 < W) = false := by simp; omega
  go_enter Ybaf.func10, Ybaf.ntmps10
  go_wp2_with (go_at_call 11; refine (errorf_less F (-9223372036854775808) _ _ (by exact hF) (by simp)).mono ?_; rintro _ w2 ⟨rfl, hB⟩)
  go_ret2
  exact ⟨⟨_, rfl⟩, ((Below.refl _ w).alloc (Nat.le_refl _) _ |>.alloc (by simp) _).trans (hB.mono (by simp; omega))⟩

/-- What is added. -/
def sgn (minus : Bool) (v : Int) : Int := match minus with
  | true => -v
  | false => v

set_option maxHeartbeats 1000000 in
/-- Sum.Add. -/
theorem add_any (N W v : Int) (minus : Bool) (w : World) (hN : I64 N) (hv : I64 v) (hW0 : -4611686018427387904 ≤ W) (hW1 : W ≤ 4611686018427387904) :
    Calls Ybaf.prog 9 #[.agg #[.int .i64 N, .int .i64 W], .int .i64 v, .bool minus] w fun e w' =>
      ∃ N' W', e = .returned (.agg #[.int .i64 N', .int .i64 W']) ∧ I64 N' ∧ W' * 18446744073709551616 + N' = W * 18446744073709551616 + N + sgn minus v ∧ Below w.heap.size w w' := by
  obtain ⟨n0, n1⟩ := hN
  obtain ⟨v0, v1⟩ := hv
  have hwp : IntKind.i64.wrap (W + 1) = W + 1 := by rw [IntKind.wrap_i64]; omega
  have hwm : IntKind.i64.wrap (W - 1) = W - 1 := by rw [IntKind.wrap_i64]; omega
  cases minus with
  | false =>
    obtain ⟨nx, hnx⟩ : ∃ nx, IntKind.i64.wrap (N + v) = nx := ⟨_, rfl⟩
    have hx := hnx
    rw [IntKind.wrap_i64] at hx
    have hnn : I64 nx := by constructor <;> omega
    rcases (show (0 < v ∧ nx < N ∧ nx = N + v - 18446744073709551616) ∨ (0 < v ∧ ¬ nx < N ∧ nx = N + v) ∨ (¬ 0 < v ∧ N < nx ∧ nx = N + v + 18446744073709551616) ∨ (¬ 0 < v ∧ ¬ N < nx ∧ nx = N + v) from by omega) with ⟨c1, c2, c3⟩ | ⟨c1, c2, c3⟩ | ⟨c1, c2, c3⟩ | ⟨c1, c2, c3⟩
    · have H : Hid (nx = N + v - 18446744073709551616 ∧ I64 nx) := ⟨c3, hnn⟩
      clear hx c3 hnn
      go_enter Ybaf.func9, Ybaf.ntmps9
      go_wp2
      refine bodyPost_ret (v := .agg #[.int .i64 nx, .int .i64 (W + 1)]) (by simp [results, Ybaf.results9, go_sem]) rfl ?_
      exact ⟨_, _, rfl, H.out.2, by have := H.out.1; simp only [sgn]; omega, ((Below.refl _ w).alloc (Nat.le_refl _) _).alloc (by simp) _⟩
    · have H : Hid (nx = N + v ∧ I64 nx) := ⟨c3, hnn⟩
      clear hx c3 hnn
      go_enter Ybaf.func9, Ybaf.ntmps9
      go_wp2
      refine bodyPost_ret (v := .agg #[.int .i64 nx, .int .i64 (W)]) (by simp [results, Ybaf.results9, go_sem]) rfl ?_
      exact ⟨_, _, rfl, H.out.2, by have := H.out.1; simp only [sgn]; omega, ((Below.refl _ w).alloc (Nat.le_refl _) _).alloc (by simp) _⟩
    · have H : Hid (nx = N + v + 18446744073709551616 ∧ I64 nx) := ⟨c3, hnn⟩
      clear hx c3 hnn
      go_enter Ybaf.func9, Ybaf.ntmps9
      go_wp2
      refine bodyPost_ret (v := .agg #[.int .i64 nx, .int .i64 (W - 1)]) (by simp [results, Ybaf.results9, go_sem]) rfl ?_
      exact ⟨_, _, rfl, H.out.2, by have := H.out.1; simp only [sgn]; omega, ((Below.refl _ w).alloc (Nat.le_refl _) _).alloc (by simp) _⟩
    · have H : Hid (nx = N + v ∧ I64 nx) := ⟨c3, hnn⟩
      clear hx c3 hnn
      go_enter Ybaf.func9, Ybaf.ntmps9
      go_wp2
      refine bodyPost_ret (v := .agg #[.int .i64 nx, .int .i64 (W)]) (by simp [results, Ybaf.results9, go_sem]) rfl ?_
      exact ⟨_, _, rfl, H.out.2, by have := H.out.1; simp only [sgn]; omega, ((Below.refl _ w).alloc (Nat.le_refl _) _).alloc (by simp) _⟩
  | true =>
    obtain ⟨nx, hnx⟩ : ∃ nx, IntKind.i64.wrap (N - v) = nx := ⟨_, rfl⟩
    have hx := hnx
    rw [IntKind.wrap_i64] at hx
    have hnn : I64 nx := by constructor <;> omega
    obtain ⟨ny, hny⟩ : ∃ ny, IntKind.i64.wrap (N + v) = ny := ⟨_, rfl⟩
    rcases (show (v < 0 ∧ nx < N ∧ nx = N - v - 18446744073709551616) ∨ (v < 0 ∧ ¬ nx < N ∧ nx = N - v) ∨ (¬ v < 0 ∧ N < nx ∧ nx = N - v + 18446744073709551616) ∨ (¬ v < 0 ∧ ¬ N < nx ∧ nx = N - v) from by omega) with ⟨c1, c2, c3⟩ | ⟨c1, c2, c3⟩ | ⟨c1, c2, c3⟩ | ⟨c1, c2, c3⟩
    · have H : Hid (nx = N - v - 18446744073709551616 ∧ I64 nx) := ⟨c3, hnn⟩
      clear hx c3 hnn
      go_enter Ybaf.func9, Ybaf.ntmps9
      go_wp2
      refine bodyPost_ret (v := .agg #[.int .i64 nx, .int .i64 (W + 1)]) (by simp [results, Ybaf.results9, go_sem]) rfl ?_
      exact ⟨_, _, rfl, H.out.2, by have := H.out.1; simp only [sgn]; omega, ((Below.refl _ w).alloc (Nat.le_refl _) _).alloc (by simp) _⟩
    · have H : Hid (nx = N - v ∧ I64 nx) := ⟨c3, hnn⟩
      clear hx c3 hnn
      go_enter Ybaf.func9, Ybaf.ntmps9
      go_wp2
      refine bodyPost_ret (v := .agg #[.int .i64 nx, .int .i64 (W)]) (by simp [results, Ybaf.results9, go_sem]) rfl ?_
      exact ⟨_, _, rfl, H.out.2, by have := H.out.1; simp only [sgn]; omega, ((Below.refl _ w).alloc (Nat.le_refl _) _).alloc (by simp) _⟩
    · have H : Hid (nx = N - v + 18446744073709551616 ∧ I64 nx) := ⟨c3, hnn⟩
      clear hx c3 hnn
      go_enter Ybaf.func9, Ybaf.ntmps9
      go_wp2
      refine bodyPost_ret (v := .agg #[.int .i64 nx, .int .i64 (W - 1)]) (by simp [results, Ybaf.results9, go_sem]) rfl ?_
      exact ⟨_, _, rfl, H.out.2, by have := H.out.1; simp only [sgn]; omega, ((Below.refl _ w).alloc (Nat.le_refl _) _).alloc (by simp) _⟩
    · have H : Hid (nx = N - v ∧ I64 nx) := ⟨c3, hnn⟩
      clear hx c3 hnn
      go_enter Ybaf.func9, Ybaf.ntmps9
      go_wp2
      refine bodyPost_ret (v := .agg #[.int .i64 nx, .int .i64 (W)]) (by simp [results, Ybaf.results9, go_sem]) rfl ?_
      exact ⟨_, _, rfl, H.out.2, by have := H.out.1; simp only [sgn]; omega, ((Below.refl _ w).alloc (Nat.le_refl _) _).alloc (by simp) _⟩
end Go.Proofs.YbulkcgnkFmt
