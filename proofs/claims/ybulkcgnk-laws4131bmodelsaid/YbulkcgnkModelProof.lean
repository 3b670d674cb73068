import Derived.Test.YbulkcgnkModelL
import Derived.Test.YbulkcgnkFrame
namespace Go.Proofs.Ybulkcgnk.lawS4131BModel
open Go.ChangeShapes Go.WideShapes Go.ChangeAt Go.RowKit Go.Deep

/-- Too long: nothing is done. -/
theorem walk_long (nd jn v : Nat) (a : Option Addr) (len cap : Nat) (fwd : Bool) (h : 1024 < len) (w : World) :
    Calls Yba.prog 3 #[.int .u8 (nd : Int), .int .u8 (jn : Int), .slice a len cap, .int .u16 (v : Int), .bool fwd] w fun e w' => e = .returned (.bool true) ∧ Below w.heap.size w w' := by
  have e1 : decide ((1024 : Int) < (len : Int)) = true := by simp; omega
  go_enter Yba.func3, Yba.ntmps3
  go_wp2
  go_ret
  exact ⟨rfl, Below.refl _ _⟩

theorem walk (nd jn v : Nat) (a : Option Addr) (len cap : Nat) (fwd : Bool) (f : Nat → Nat × Nat) (w : World) (h1 : nd < 256) (h2 : jn < 256) (hv : v < 65536) (hE : InE w a len f) :
    Calls Yba.prog 3 #[.int .u8 (nd : Int), .int .u8 (jn : Int), .slice a len cap, .int .u16 (v : Int), .bool fwd] w fun e w' => e = .returned (.bool true) ∧ Below w.heap.size w w' := by
  by_cases hl : 1024 < len
  · exact walk_long nd jn v a len cap fwd hl w
  · exact modelL_any w nd jn len cap v a f fwd h1 h2 (by omega) hv hE

set_option maxRecDepth 100000 in
theorem lifted (os : Os) (started : os.Started) (H : Type) (enc : TypeId × Value → H) :
    ReturnsInHanded {} Yba.checked os 3 .any (Rows.lawS4131BModelSpec.pre6 enc Yba.prog Yba.f3 Rows.lawS4131BModelRow.domain false) (Rows.lawS4131BModelSpec.post enc Yba.prog Yba.f3 false true false false) := by
  refine returnsInHanded_of_change (C := Yba.checked) own started (by kernel_rfl) Yba.func3
    (ChangeSpec.witness6 (enc := enc) (C := Yba.checked) false ⟨#[], #[.int .u8 0, .int .u8 0, .slice none 0 0, .int .u16 0, .bool true], []⟩ 8 (by kernel_rfl) (by kernel_rfl) (by kernel_rfl) (by kernel_rfl)) ?_
  intro W base args ds gs before hval0 hW hcnd _
  have hval : ∀ (j : Nat) t v, Yba.f3.params[j]? = some t → args[j]? = some v → Value.okWide Yba.prog W .any base t v := hval0
  have hW' := hW
  obtain ⟨p, q, hA0, hV, rfl, hfz, hnd⟩ := hW
  have hA : DataW.TrodAll enc Yba.prog W 0 (fun _ => true) true Yba.f3.params.toList args.toList ds p := hA0
  rw [Yba.params3] at hA hval
  obtain ⟨v0, vs0, d0, ds0, p0, q0, hargs, rfl, rfl, h0, r0⟩ := trodAll_cons hA
  obtain ⟨v1, vs1, d1, ds1, p1, q1, rfl, rfl, rfl, h1, r1⟩ := trodAll_cons r0
  obtain ⟨v2, vs2, d2, ds2, p2, q2, rfl, rfl, rfl, h2, r2⟩ := trodAll_cons r1
  obtain ⟨v3, vs3, d3, ds3, p3, q3, rfl, rfl, rfl, h3, r3⟩ := trodAll_cons r2
  obtain ⟨v4, vs4, d4, ds4, p4, q4, rfl, rfl, rfl, h4, r4⟩ := trodAll_cons r3
  obtain ⟨rfl, rfl, rfl⟩ := trodAll_nil r4
  obtain rfl : args = #[v0, v1, v2, v3, v4] := by cases args; simp_all
  obtain ⟨rfl, rfl⟩ := trodVars_none hV
  obtain ⟨x0, rfl, rfl, rfl, w0⟩ := open_int Yba.underlying5 (hval 0 5 v0 rfl rfl) h0
  obtain ⟨x1, rfl, rfl, rfl, w1⟩ := open_int Yba.underlying5 (hval 1 5 v1 rfl rfl) h1
  obtain ⟨a2, len2, cap2, rfl⟩ := okWide_slice Yba.underlying22 (hval 2 22 v2 rfl rfl)
  obtain ⟨x3, rfl, rfl, rfl, w3⟩ := open_int Yba.underlying23 (hval 3 23 v3 rfl rfl) h3
  obtain ⟨b4, rfl, rfl, rfl⟩ := open_bool Yba.underlying4 (hval 4 4 v4 rfl rfl) h4
  obtain ⟨f, hf⟩ := edges_of h2
  have lt2 : ∀ y ∈ p2, y.block < W.heap.size := by obtain ⟨m, hm⟩ := h2; exact DataW.trod_lt m _ _ _ hm
  obtain ⟨l0, u0⟩ := bounds_u8 w0
  obtain ⟨l1, u1⟩ := bounds_u8 w1
  obtain ⟨l3, u3⟩ := bounds_u16 w3
  obtain ⟨n0, rfl⟩ : ∃ n : Nat, x0 = (n : Int) := ⟨x0.toNat, by omega⟩
  obtain ⟨n1, rfl⟩ : ∃ n : Nat, x1 = (n : Int) := ⟨x1.toNat, by omega⟩
  obtain ⟨n3, rfl⟩ : ∃ n : Nat, x3 = (n : Int) := ⟨x3.toNat, by omega⟩
  clear hA0 hval0
  refine (walk n0 n1 n3 a2 len2 cap2 b4 f W (by omega) (by omega) (by omega) hf).mono fun e W' ⟨he, bel⟩ => ?_
  subst he
  exact ⟨_, rfl, _, _, _, [], _, [], hW', trodAll_mk1 (shut_bool Yba.underlying4 _), (trodAll_cons_mk (shut_int Yba.underlying5 w0) (trodAll_cons_mk (shut_int Yba.underlying5 w1) (trodAll_cons_mk (Below.trod laidOut (by kernel_rfl) (of_decide_eq_true (by kernel_rfl)) h2 bel lt2) (trodAll_cons_mk (shut_int Yba.underlying23 w3) (trodAll_cons_mk (shut_bool Yba.underlying4 _) trodAll_mk0))))), rfl, bel.frame _, fun h => by cases h⟩

theorem over : Rows.lawS4131BModelRow.holds Yba.pinned (OpenSpec.ofChange Rows.lawS4131BModelSpec) :=
  OpenClaim.holds_of_wide 3 Yba.f3 rfl rfl rfl rfl rfl rfl rfl ⟨rfl, rfl, rfl, rfl, rfl⟩ rfl rfl rfl rfl rfl (by kernel_rfl) Yba.func3 (by kernel_rfl)
    (of_decide_eq_true (by kernel_rfl)) (by unfold Func.isWrapper; first | (rw [if_pos (by decide +kernel)]; kernel_rfl) | (rw [if_neg (by decide +kernel)]; exact ⟨rfl, rfl⟩))
    (fun os started H enc _ => lifted os started H enc)

theorem proved : Rows.LawS4131BModelSaid := over
end Go.Proofs.Ybulkcgnk.lawS4131BModel
