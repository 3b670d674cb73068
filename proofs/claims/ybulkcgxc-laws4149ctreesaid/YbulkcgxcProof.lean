import Derived.Test.YbulkcgxcLaw
import Derived.ProofKit
import Derived.OpenShut
import Derived.ChangeOld
import Derived.Deep.Slices
namespace Go.Proofs.Ybulkcgxc.lawS4149CTree
open Go.ChangeShapes Go.WideShapes Go.ChangeAt Go.RowKit Go.Deep

theorem own : ownKnob Yba.prog.godebug = none := by kernel_rfl
theorem laidOut : laidOutB Yba.prog = true := by kernel_rfl
theorem Yba.cells25 : Yba.prog.cellsOf 25 = 4 := by kernel_rfl
theorem Yba.cells5 : Yba.prog.cellsOf 5 = 1 := by kernel_rfl
theorem Yba.cells23 : Yba.prog.cellsOf 23 = 1 := by kernel_rfl
theorem Yba.cells3 : Yba.prog.cellsOf 3 = 1 := by kernel_rfl
theorem Yba.cells21 : Yba.prog.cellsOf 21 = 1 := by kernel_rfl

/-- The runes of a leaf. -/
theorem runes_of {H : Type} {enc : TypeId × Value → H} {W : World} {fuel : Nat} {v : Value} {y : DataW H × List MemPlace} (h : DataW.trod enc Yba.prog W 0 (fun _ => true) true fuel 23 [v] = some y) :
    ∃ ra rl rc z, v = .slice ra rl rc ∧ rl ≤ rc ∧ InR W ra rl z := by
  rcases open_ints Yba.underlying23 Yba.underlying21 Yba.cells21 h with ⟨hcs, _⟩ | ⟨x, l, c, zs, hcs, _, hl, hm, hz, _, hcell, hwz⟩
  · simp at hcs
    exact ⟨_, _, _, fun _ => 0, hcs, Nat.le_refl _, fun j hj => by omega⟩
  · simp at hcs
    subst hcs
    simp only [if_true] at hz
    refine ⟨_, _, _, fun j => zs.getD j 0, rfl, hl, fun j hj => ?_⟩
    obtain ⟨b, off, spot⟩ := x
    have hspot : spot = none := by simpa [Addr.add] using World.cell?_spot (hcell 0 (by omega))
    subst hspot
    refine ⟨b, off, rfl, ?_⟩
    rw [← add_plain]
    exact hcell j (by omega)

/-- The leaves that came in. -/
theorem leaves_of {H : Type} {enc : TypeId × Value → H} {W : World} {a0 : Option Addr} {len0 cap0 : Nat} {d : DataW H} {ps : List MemPlace}
    (h0 : DataW.Trod enc Yba.prog W 0 (fun _ => true) true 22 (.slice a0 len0 cap0) d ps) : ∃ lf, InL W a0 len0 lf := by
  obtain ⟨fuel, hf⟩ := h0
  rcases open_slice Yba.underlying22 hf with ⟨hcs, _⟩ | ⟨a, len, cap, m, n, D, Pl, hcs, hb, hl, hm, hmm, _, hx⟩
  · simp [Value.cells] at hcs
    obtain ⟨rfl, rfl, rfl⟩ := hcs
    exact ⟨fun _ => ⟨0, 0, 0, 0, none, 0, fun _ => 0⟩, fun j hj => by omega⟩
  · simp [Value.cells] at hcs
    obtain ⟨rfl, rfl, rfl⟩ := hcs
    simp only [if_true] at hmm
    obtain ⟨b, off, spot⟩ := a
    have each : ∀ i, i < len0 → ∃ q : Nat × Nat × Nat × Nat × Option Addr × Int × (Nat → Int), spot = none ∧ W.cell? ⟨b, off + i * 4, none⟩ = some (.int .u8 (q.1 : Int)) ∧ W.cell? ⟨b, off + i * 4 + 1, none⟩ = some (.slice q.2.2.2.2.1 q.2.2.1 q.2.2.2.1) ∧ W.cell? ⟨b, off + i * 4 + 2, none⟩ = some (.int .u8 (q.2.1 : Int)) ∧ W.cell? ⟨b, off + i * 4 + 3, none⟩ = some (.int .i64 q.2.2.2.2.2.1) ∧
        InR W q.2.2.2.2.1 q.2.2.1 q.2.2.2.2.2.2 ∧ q.2.2.1 ≤ q.2.2.2.1 ∧ q.1 < 256 ∧ q.2.1 < 256 := by
      intro i hi
      obtain ⟨cs', h1, h2⟩ := hx i (by omega)
      rw [Yba.cells25] at h1
      obtain ⟨_, hlen, hcell⟩ := World.cells?_some h1
      obtain ⟨xs, k, hk, hxy, _, hxl, hfl⟩ := DataW.trod_struct Yba.underlying25 h2
      match xs, hxl, cs', hlen with
      | [y0, y1, y2, y3], _, [v0, v1, v2, v3], _ =>
        have g0 := hfl 0 _ rfl
        have g1 := hfl 1 _ rfl
        have g2 := hfl 2 _ rfl
        have g3 := hfl 3 _ rfl
        simp [Yba.cells5, Yba.cells23, Yba.cells3] at g0 g1 g2 g3
        have e0 := hcell 0 (by omega)
        have e1 := hcell 1 (by omega)
        have e2 := hcell 2 (by omega)
        have e3 := hcell 3 (by omega)
        rw [add_add] at e0 e1 e2 e3
        have hspot : spot = none := by
          obtain ⟨cs0, k1, _⟩ := hx 0 (by omega)
          rw [Yba.cells25] at k1
          obtain ⟨_, klen, kcell⟩ := World.cells?_some k1
          match cs0, klen with
          | [u0, u1, u2, u3], _ =>
            have k2 := kcell 0 (by omega)
            simp [Addr.add] at k2
            exact World.cell?_spot k2
        subst hspot
        rw [add_plain] at e0 e1 e2 e3
        obtain ⟨x0, c0, _, w0⟩ := DataW.trod_int Yba.underlying5 g0
        obtain ⟨ra, rl, rc, z, rfl, hrc, hR⟩ := runes_of g1
        obtain ⟨x2, c2, _, w2⟩ := DataW.trod_int Yba.underlying5 g2
        obtain ⟨x3, c3, _, w3⟩ := DataW.trod_int Yba.underlying3 g3
        simp at c0 c2 c3
        subst c0 c2 c3
        obtain ⟨l0, u0⟩ := bounds_u8 w0
        obtain ⟨l2, u2⟩ := bounds_u8 w2
        refine ⟨(x0.toNat, x2.toNat, rl, rc, ra, x3, z), rfl, ?_, ?_, ?_, ?_, hR, hrc, by simp only []; omega, by simp only []; omega⟩
        · simp only []; rw [Int.toNat_of_nonneg l0]; simpa using e0
        · rw [Nat.add_assoc]; simpa using e1
        · simp only []; rw [Nat.add_assoc, Int.toNat_of_nonneg l2]; simpa using e2
        · rw [Nat.add_assoc]; simpa using e3
    obtain ⟨q, hq⟩ := choose_lt each
    refine ⟨fun j => ⟨(q j).1, (q j).2.1, (q j).2.2.1, (q j).2.2.2.1, (q j).2.2.2.2.1, (q j).2.2.2.2.2.1, (q j).2.2.2.2.2.2⟩, fun j hj => ?_⟩
    obtain ⟨rfl, rest⟩ := hq j hj
    exact ⟨b, off, rfl, rest⟩

/-- Too long: nothing is done. -/
theorem walk_long (a : Option Addr) (m c : Nat) (top dp : Nat) (h : 256 < m) (w : World) :
    Calls Yba.prog 3 #[.slice a m c, .int .u8 (top : Int), .int .u8 (dp : Int)] w fun e w' => e = .returned (.bool true) ∧ Below w.heap.size w w' := by
  have e1 : decide ((256 : Int) < (m : Int)) = true := by simp; omega
  go_enter Yba.func3, Yba.ntmps3
  go_wp2
  go_ret
  exact ⟨rfl, Below.refl _ _⟩
theorem walk (a : Option Addr) (m c : Nat) (top dp : Nat) (lf : Nat → LF) (w : World) (hL : InL w a m lf) (ht : top < 256) (hd : dp < 256) :
    Calls Yba.prog 3 #[.slice a m c, .int .u8 (top : Int), .int .u8 (dp : Int)] w fun e w' => e = .returned (.bool true) ∧ Below w.heap.size w w' := by
  by_cases h : 256 < m
  · exact walk_long a m c top dp h w
  · exact law_any w a m c top dp lf hL (by omega) ht hd

set_option maxRecDepth 100000 in
theorem lifted (os : Os) (started : os.Started) (H : Type) (enc : TypeId × Value → H) :
    ReturnsInHanded {} Yba.checked os 3 .any (Rows.lawS4149CTreeSpec.pre6 enc Yba.prog Yba.f3 Rows.lawS4149CTreeRow.domain false) (Rows.lawS4149CTreeSpec.post enc Yba.prog Yba.f3 false true false false) := by
  refine returnsInHanded_of_change (C := Yba.checked) own started (by kernel_rfl) Yba.func3
    (ChangeSpec.witness6 (enc := enc) (C := Yba.checked) false ⟨#[], #[.slice none 0 0, .int .u8 0, .int .u8 0], []⟩ 8 (by kernel_rfl) (by kernel_rfl) (by kernel_rfl) (by kernel_rfl)) ?_
  intro W base args ds gs before hval0 hW hcnd _
  have hval : ∀ (j : Nat) t v, Yba.f3.params[j]? = some t → args[j]? = some v → Value.okWide Yba.prog W .any base t v := hval0
  have hW' := hW
  obtain ⟨p, q, hA0, hV, rfl, hfz, hnd⟩ := hW
  have hA : DataW.TrodAll enc Yba.prog W 0 (fun _ => true) true Yba.f3.params.toList args.toList ds p := hA0
  rw [Yba.params3] at hA hval
  obtain ⟨v0, vs0, d0, ds0, p0, q0, hargs, rfl, rfl, h0, r0⟩ := trodAll_cons hA
  obtain ⟨v1, vs1, d1, ds1, p1, q1, rfl, rfl, rfl, h1, r1⟩ := trodAll_cons r0
  obtain ⟨v2, vs2, d2, ds2, p2, q2, rfl, rfl, rfl, h2, r2⟩ := trodAll_cons r1
  obtain ⟨rfl, rfl, rfl⟩ := trodAll_nil r2
  obtain rfl : args = #[v0, v1, v2] := by cases args; simp_all
  obtain ⟨rfl, rfl⟩ := trodVars_none hV
  obtain ⟨a0, len0, cap0, rfl⟩ := okWide_slice Yba.underlying22 (hval 0 22 v0 rfl rfl)
  obtain ⟨x1, rfl, rfl, rfl, w1⟩ := open_int Yba.underlying5 (hval 1 5 v1 rfl rfl) h1
  obtain ⟨x2, rfl, rfl, rfl, w2⟩ := open_int Yba.underlying5 (hval 2 5 v2 rfl rfl) h2
  obtain ⟨lf, hlf⟩ := leaves_of h0
  have lt0 : ∀ y ∈ p0, y.block < W.heap.size := by obtain ⟨m, hm⟩ := h0; exact DataW.trod_lt m _ _ _ hm
  obtain ⟨l1, u1⟩ := bounds_u8 w1
  obtain ⟨l2, u2⟩ := bounds_u8 w2
  obtain ⟨n1, rfl⟩ : ∃ n : Nat, x1 = (n : Int) := ⟨x1.toNat, by omega⟩
  obtain ⟨n2, rfl⟩ : ∃ n : Nat, x2 = (n : Int) := ⟨x2.toNat, by omega⟩
  clear hA0 hval0
  refine (walk a0 len0 cap0 n1 n2 lf W hlf (by omega) (by omega)).mono fun e W' ⟨he, bel⟩ => ?_
  subst he
  exact ⟨_, rfl, _, _, _, [], _, [], hW', trodAll_mk1 (shut_bool Yba.underlying4 _), (trodAll_cons_mk (Below.trod laidOut (by kernel_rfl) (of_decide_eq_true (by kernel_rfl)) h0 bel lt0) (trodAll_cons_mk (shut_int Yba.underlying5 w1) (trodAll_cons_mk (shut_int Yba.underlying5 w2) trodAll_mk0))), rfl, bel.frame _, fun h => by cases h⟩

theorem over : Rows.lawS4149CTreeRow.holds Yba.pinned (OpenSpec.ofChange Rows.lawS4149CTreeSpec) :=
  OpenClaim.holds_of_wide 3 Yba.f3 rfl rfl rfl rfl rfl rfl rfl ⟨rfl, rfl, rfl, rfl, rfl⟩ rfl rfl rfl rfl rfl (by kernel_rfl) Yba.func3 (by kernel_rfl)
    (of_decide_eq_true (by kernel_rfl)) (by unfold Func.isWrapper; first | (rw [if_pos (by decide +kernel)]; kernel_rfl) | (rw [if_neg (by decide +kernel)]; exact ⟨rfl, rfl⟩))
    (fun os started H enc _ => lifted os started H enc)

theorem proved : Rows.LawS4149CTreeSaid := over
end Go.Proofs.Ybulkcgxc.lawS4149CTree
