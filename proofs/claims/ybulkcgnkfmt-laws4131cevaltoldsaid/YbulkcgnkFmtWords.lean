import Derived.Test.YbulkcgnkFmtEval
namespace Go.Proofs.YbulkcgnkFmt
open Go.RowKit

/-- The low and the high word of a sum. -/
def lo (S : Int) : Int := S % 18446744073709551616
def hi (S : Int) : Int := S / 18446744073709551616 % 18446744073709551616
theorem lo_bnd (S : Int) : 0 ≤ lo S ∧ lo S < 18446744073709551616 := by unfold lo; omega
theorem hi_bnd (S : Int) : 0 ≤ hi S ∧ hi S < 18446744073709551616 := by unfold hi; omega
/-- The high word of a value. -/
def vh (v : Int) : Int := if v < 0 then 18446744073709551615 else 0
theorem vh_bnd (v : Int) : 0 ≤ vh v ∧ vh v < 18446744073709551616 := by unfold vh; split <;> omega
theorem lo_start (cn cw : Int) : lo (cw * 18446744073709551616 + cn) = cn % 18446744073709551616 := by unfold lo; omega
theorem hi_start_neg (cn cw : Int) (h : I64 cn) (hc : cn < 0) : hi (cw * 18446744073709551616 + cn) = (cw % 18446744073709551616 - 1) % 18446744073709551616 := by
  obtain ⟨h0, h1⟩ := h
  unfold hi; omega
theorem hi_start_pos (cn cw : Int) (h : I64 cn) (hc : ¬ cn < 0) : hi (cw * 18446744073709551616 + cn) = cw % 18446744073709551616 := by
  obtain ⟨h0, h1⟩ := h
  unfold hi; omega
/-- One term subtracted, one added: the calls of math/bits. -/
theorem sub_lo (S v : Int) (w : World) : (callFunc 7 #[.int .u64 (lo S), .int .u64 (lo v), .int .u64 0]).run Ybaf.prog w =
    .ok (.value (.tuple #[.int .u64 (lo (S - v)), .int .u64 (if lo S < lo v then 1 else 0)])) w := by
  have h1 := lo_bnd S
  have h2 := lo_bnd v
  rw [sub64 _ _ 0 h1.1 h2.1 h2.2 (by omega) (by omega)]
  have e : (lo S - lo v - 0) % 18446744073709551616 = lo (S - v) := by unfold lo; omega
  rw [e, Int.add_zero]
theorem sub_hi (S v : Int) (h : I64 v) : ∃ c, ∀ w, (callFunc 7 #[.int .u64 (hi S), .int .u64 (vh v), .int .u64 (if lo S < lo v then 1 else 0)]).run Ybaf.prog w =
    .ok (.value (.tuple #[.int .u64 (hi (S - v)), .int .u64 c])) w := by
  have h1 := hi_bnd S
  have h2 := vh_bnd v
  refine ⟨if hi S < vh v + (if lo S < lo v then 1 else 0) then 1 else 0, fun w => ?_⟩
  rw [sub64 _ _ _ h1.1 h2.1 h2.2 (by split <;> omega) (by split <;> omega) w]
  have e : (hi S - vh v - (if lo S < lo v then 1 else 0)) % 18446744073709551616 = hi (S - v) := by
    obtain ⟨a, b⟩ := h
    unfold hi lo vh
    split <;> split <;> omega
  rw [e]
theorem add_lo (S v : Int) (w : World) : (callFunc 8 #[.int .u64 (lo S), .int .u64 (lo v), .int .u64 0]).run Ybaf.prog w =
    .ok (.value (.tuple #[.int .u64 (lo (S + v)), .int .u64 ((lo S + lo v) / 18446744073709551616)])) w := by
  have h1 := lo_bnd S
  have h2 := lo_bnd v
  rw [add64 _ _ 0 h1.1 h2.1 (by omega) (by omega)]
  have e : (lo S + lo v + 0) % 18446744073709551616 = lo (S + v) := by unfold lo; omega
  rw [e, Int.add_zero]
theorem add_hi (S v : Int) (h : I64 v) : ∃ c, ∀ w, (callFunc 8 #[.int .u64 (hi S), .int .u64 (vh v), .int .u64 ((lo S + lo v) / 18446744073709551616)]).run Ybaf.prog w =
    .ok (.value (.tuple #[.int .u64 (hi (S + v)), .int .u64 c])) w := by
  have h1 := hi_bnd S
  have h2 := vh_bnd v
  have h3 := lo_bnd S
  have h4 := lo_bnd v
  refine ⟨(hi S + vh v + (lo S + lo v) / 18446744073709551616) / 18446744073709551616, fun w => ?_⟩
  rw [add64 _ _ _ h1.1 h2.1 (by omega) (by omega) w]
  have e : (hi S + vh v + (lo S + lo v) / 18446744073709551616) % 18446744073709551616 = hi (S + v) := by
    obtain ⟨a, b⟩ := h
    unfold hi lo vh
    split <;> omega
  rw [e]
/-- When the sum fits. -/
theorem fits_iff (S : Int) (h0 : -40564819207303340847894502572032 ≤ S) (h1 : S ≤ 40564819207303340847894502572032) : I64 S ↔ (hi S = 0 ∧ lo S < 9223372036854775808) ∨ (hi S = 18446744073709551615 ∧ 9223372036854775808 ≤ lo S) := by
  unfold I64 hi lo
  omega
theorem back (S : Int) (h : I64 S) : IntKind.i64.wrap (lo S) = S := by
  obtain ⟨a, b⟩ := h
  rw [IntKind.wrap_i64]; unfold lo; omega
theorem psum_bnd {w : World} {a : Option Addr} {len : Nat} {g : Nat → Int × Bool} (hI : InV w a len g) (T : Nat → Nat × Bool) (cn cw : Int) (hcn : I64 cn) (h0 : -1099511627776 ≤ cw) (h1 : cw ≤ 1099511627776) (m : Nat) (hit : ∀ k, k < m → (T k).1 < 256) :
    ∀ k, k ≤ m → -40564819207303340847894502572032 + (1024 - (k : Int)) * 18446744073709551616 ≤ psum (cw * 18446744073709551616 + cn) len g T k ∧ psum (cw * 18446744073709551616 + cn) len g T k ≤ 40564819207303340847894502572032 - (1024 - (k : Int)) * 18446744073709551616 := by
  intro k
  induction k with
  | zero =>
    intro _
    obtain ⟨a, b⟩ := hcn
    simp only [psum]
    constructor <;> omega
  | succ k ih =>
    intro hk
    obtain ⟨i1, i2⟩ := ih (by omega)
    obtain ⟨a, b⟩ := vv_i64 hI (hit k (by omega))
    simp only [psum]
    cases (T k).2 <;> simp only [sgn] <;> constructor <;> omega
end Go.Proofs.YbulkcgnkFmt
