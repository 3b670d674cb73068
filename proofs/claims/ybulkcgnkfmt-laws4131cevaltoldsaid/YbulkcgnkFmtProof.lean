import Derived.Test.YbulkcgnkFmtLaw
import Derived.Test.YbulkcgnkFmtCards
import Derived.ProofKit
import Derived.OpenShut
import Derived.ChangeOld
import Derived.Deep.SlicePairs
import Derived.Stop.JoinedAt
import Derived.Stop.JoinedTold
import Derived.SevenToldRow
namespace Go.Proofs.YbulkcgnkFmt.lawS4131CEval
open Go.ChangeShapes Go.WideShapes Go.ChangeAt Go.RowKit Go.Deep Go.Kit
open Go.Extern.Stop Go.Stop Go.Extern

theorem own : ownKnob Ybaf.prog.godebug = none := by kernel_rfl
theorem laidOut : laidOutB Ybaf.pinned.checked.prog = true := by kernel_rfl
theorem laidOut' : laidOutB Ybaf.prog = true := by kernel_rfl
theorem stops : Ybaf.pinned.checked.prog.stops = ["fmt.errorf"] := by kernel_rfl
theorem stopKnobs : Ybaf.pinned.checked.prog.stopKnobs = [] := by kernel_rfl
theorem quiet (os : Os) : Stop.quiet Ybaf.pinned.checked.prog os := by
  intro k hk
  rw [stopKnobs] at hk
  cases hk
theorem Ybaf.cells26 : Ybaf.prog.cellsOf 26 = 2 := by kernel_rfl
theorem Ybaf.cells46 : Ybaf.prog.cellsOf 46 = 2 := by kernel_rfl
theorem Ybaf.cells5 : Ybaf.prog.cellsOf 5 = 1 := by kernel_rfl
theorem Ybaf.cells4 : Ybaf.prog.cellsOf 4 = 1 := by kernel_rfl
theorem Ybaf.cells2 : Ybaf.prog.cellsOf 2 = 1 := by kernel_rfl

theorem bool_of_trod {H : Type} {enc : TypeId × Value → H} {P : Program} {w : World} {base : Nat} {sp : Nat → Bool} {held : Bool} {fuel : Nat} {t : TypeId} {c : Value} {y : DataW H × List MemPlace}
    (ht : P.underlying t = some .bool) (h : DataW.trod enc P w base sp held fuel t [c] = some y) : ∃ b, c = .bool b := by
  cases fuel with
  | zero => simp [DataW.trod] at h
  | succ fuel =>
    cases c <;> simp [DataW.trod, ht] at h
    exact ⟨_, rfl⟩

/-- The terms that came in. -/
theorem terms_of {H : Type} {enc : TypeId × Value → H} {W : World} {a0 : Option Addr} {len0 cap0 : Nat} {d : DataW H} {ps : List MemPlace}
    (h0 : DataW.Trod enc Ybaf.prog W 0 (fun _ => true) true 22 (.slice a0 len0 cap0) d ps) : ∃ f, InT W a0 len0 f := by
  obtain ⟨fuel, hf⟩ := h0
  rcases open_slice_pairs Ybaf.underlying22 Ybaf.underlying26 Ybaf.cells26 rfl rfl Ybaf.cells5 Ybaf.cells4 hf with ⟨hcs, _⟩ | ⟨a, len, cap, m, n, V0, V1, D0, D1, P0, P1, hcs, _, hl, hm, hz, _, hx⟩
  · simp [Value.cells] at hcs
    obtain ⟨rfl, rfl, rfl⟩ := hcs
    exact ⟨fun _ => (0, false), fun j hj => by omega⟩
  · simp [Value.cells] at hcs
    obtain ⟨rfl, rfl, rfl⟩ := hcs
    simp only [if_true] at hz
    by_cases hl0 : len0 = 0
    · exact ⟨fun _ => (0, false), fun j hj => by omega⟩
    · obtain ⟨b, off, spot⟩ := a
      have hspot : spot = Option.none := by simpa [Addr.add] using World.cell?_spot (hx 0 (by omega)).1
      subst hspot
      have hvals : ∀ j, j < len0 → ∃ q : Nat × Bool, V0 j = .int .u8 (q.1 : Int) ∧ V1 j = .bool q.2 ∧ q.1 < 256 := fun j hj => by
        obtain ⟨_, _, t0, t1⟩ := hx j (by omega)
        obtain ⟨x, e0, _, wx⟩ := DataW.trod_int Ybaf.underlying5 t0
        obtain ⟨y, e1⟩ := bool_of_trod Ybaf.underlying4 t1
        simp at e0
        obtain ⟨x0, x1⟩ := bounds_u8 wx
        exact ⟨(x.toNat, y), by rw [e0, Int.toNat_of_nonneg x0], e1, by omega⟩
      obtain ⟨g, hg⟩ := choose_lt hvals
      refine ⟨g, fun j hj => ⟨b, off, rfl, (hg j hj).2.2, ?_, ?_⟩⟩
      · rw [← (hg j hj).1, ← add_plain]; exact (hx j (by omega)).1
      · rw [← (hg j hj).2.1, Nat.add_assoc, ← add_plain]; exact (hx j (by omega)).2.1
/-- The values that came in. -/
theorem vals_of {H : Type} {enc : TypeId × Value → H} {W : World} {a0 : Option Addr} {len0 cap0 : Nat} {d : DataW H} {ps : List MemPlace}
    (h0 : DataW.Trod enc Ybaf.prog W 0 (fun _ => true) true 23 (.slice a0 len0 cap0) d ps) : ∃ g, InV W a0 len0 g := by
  obtain ⟨fuel, hf⟩ := h0
  rcases open_slice_pairs Ybaf.underlying23 Ybaf.underlying46 Ybaf.cells46 rfl rfl Ybaf.cells2 Ybaf.cells4 hf with ⟨hcs, _⟩ | ⟨a, len, cap, m, n, V0, V1, D0, D1, P0, P1, hcs, _, hl, hm, hz, _, hx⟩
  · simp [Value.cells] at hcs
    obtain ⟨rfl, rfl, rfl⟩ := hcs
    exact ⟨fun _ => (0, false), fun j hj => by omega⟩
  · simp [Value.cells] at hcs
    obtain ⟨rfl, rfl, rfl⟩ := hcs
    simp only [if_true] at hz
    by_cases hl0 : len0 = 0
    · exact ⟨fun _ => (0, false), fun j hj => by omega⟩
    · obtain ⟨b, off, spot⟩ := a
      have hspot : spot = Option.none := by simpa [Addr.add] using World.cell?_spot (hx 0 (by omega)).1
      subst hspot
      have hvals : ∀ j, j < len0 → ∃ q : Int × Bool, V0 j = .int .i64 q.1 ∧ V1 j = .bool q.2 ∧ I64 q.1 := fun j hj => by
        obtain ⟨_, _, t0, t1⟩ := hx j (by omega)
        obtain ⟨x, e0, _, wx⟩ := DataW.trod_int Ybaf.underlying2 t0
        obtain ⟨y, e1⟩ := bool_of_trod Ybaf.underlying4 t1
        simp at e0
        exact ⟨(x, y), e0, e1, bounds_i64 wx⟩
      obtain ⟨g, hg⟩ := choose_lt hvals
      refine ⟨g, fun j hj => ⟨b, off, rfl, (hg j hj).2.2, ?_, ?_⟩⟩
      · rw [← (hg j hj).1, ← add_plain]; exact (hx j (by omega)).1
      · rw [← (hg j hj).2.1, Nat.add_assoc, ← add_plain]; exact (hx j (by omega)).2.1

set_option maxRecDepth 4000 in
/-- Too long, or the constant too far off: nothing is done. -/
theorem walk_long (cn cw : Int) (m mc len cap : Nat) (ta a : Option Addr) (h : 1024 < m) (w : World) :
    Calls Ybaf.prog 3 #[.int .i64 cn, .int .i64 cw, .slice ta m mc, .slice a len cap] w fun e w' => e = .returned (.bool true) ∧ Below w.heap.size w w' := by
  have e1 : decide ((1024 : Int) < (m : Int)) = true := by simp; omega
  go_enter Ybaf.func3, Ybaf.ntmps3
  go_wp2
  go_ret
  exact ⟨rfl, (Below.refl _ _).alloc (Nat.le_refl _) _⟩
set_option maxRecDepth 4000 in
theorem walk_up (cn cw : Int) (m mc len cap : Nat) (ta a : Option Addr) (h : ¬ 1024 < m) (hc : 1099511627776 < cw) (w : World) :
    Calls Ybaf.prog 3 #[.int .i64 cn, .int .i64 cw, .slice ta m mc, .slice a len cap] w fun e w' => e = .returned (.bool true) ∧ Below w.heap.size w w' := by
  have e1 : decide ((1024 : Int) < (m : Int)) = false := by simp; omega
  go_enter Ybaf.func3, Ybaf.ntmps3
  go_wp2
  go_ret
  exact ⟨rfl, (Below.refl _ _).alloc (Nat.le_refl _) _⟩
set_option maxRecDepth 4000 in
theorem walk_down (cn cw : Int) (m mc len cap : Nat) (ta a : Option Addr) (h : ¬ 1024 < m) (hc : cw < -1099511627776) (w : World) :
    Calls Ybaf.prog 3 #[.int .i64 cn, .int .i64 cw, .slice ta m mc, .slice a len cap] w fun e w' => e = .returned (.bool true) ∧ Below w.heap.size w w' := by
  have e1 : decide ((1024 : Int) < (m : Int)) = false := by simp; omega
  have e2 : decide (1099511627776 < cw) = false := by simp; omega
  go_enter Ybaf.func3, Ybaf.ntmps3
  go_wp2
  go_ret
  exact ⟨rfl, (Below.refl _ _).alloc (Nat.le_refl _) _⟩

theorem walk (F : Interp) (cn cw : Int) (m mc len cap : Nat) (ta a : Option Addr) (f : Nat → Nat × Bool) (g : Nat → Int × Bool) (w : World) (hF : F.answers w.tape) (hcn : I64 cn) (hT : InT w ta m f) (hI : InV w a len g) :
    Calls Ybaf.prog 3 #[.int .i64 cn, .int .i64 cw, .slice ta m mc, .slice a len cap] w fun e w' => e = .returned (.bool true) ∧ Below w.heap.size w w' := by
  by_cases h1 : 1024 < m
  · exact walk_long cn cw m mc len cap ta a h1 w
  · by_cases h2 : 1099511627776 < cw
    · exact walk_up cn cw m mc len cap ta a h1 h2 w
    · by_cases h3 : cw < -1099511627776
      · exact walk_down cn cw m mc len cap ta a h1 h3 w
      · exact law_any F w hF cn cw m mc len cap ta a f g hcn (by omega) (by omega) (by omega) hT hI

set_option maxRecDepth 100000 in
theorem lifted (os : Os) (started : os.Started) (H : Type) (enc : TypeId × Value → H) :
    ReturnsInTold Option.none {} Ybaf.checked os 3 .any Input.okWide ((OpenSpec.ofChange Rows.lawS4131CEvalSpec).preRow enc Ybaf.prog Ybaf.f3 [] false []) (fun F => ((OpenSpec.ofChange Rows.lawS4131CEvalSpec).at F).post enc Ybaf.prog Ybaf.f3 false true false false) (aloneAtReturn Ybaf.prog) nothingAlways := by
  refine returnsInTold_of_row (C := Ybaf.checked) (s := OpenSpec.ofChange Rows.lawS4131CEvalSpec) (by kernel_rfl) own started (by kernel_rfl) Ybaf.func3
    (OpenSpec.witness_stopped (enc := enc) (C := Ybaf.checked) false ⟨#[], #[.int .i64 0, .int .i64 0, .slice Option.none 0 0, .slice Option.none 0 0], []⟩ 8 (by kernel_rfl) (by kernel_rfl) (by kernel_rfl) (by kernel_rfl)) ?_
  intro F W base args ds gs before _ hF hval0 hW _ _ _ _ _
  have hval : ∀ (j : Nat) t v, Ybaf.f3.params[j]? = some t → args[j]? = some v → Value.okWide Ybaf.prog W .any base t v := hval0
  have hW' := hW
  obtain ⟨p, q, hA0, hV, rfl, hfz, hnd⟩ := hW
  have hA : DataW.TrodAll enc Ybaf.prog W 0 (fun _ => true) true Ybaf.f3.params.toList args.toList ds p := hA0
  rw [Ybaf.params3] at hA hval
  obtain ⟨v0, vs0, d0, ds0, p0, q0, hargs, rfl, rfl, h0, r0⟩ := trodAll_cons hA
  obtain ⟨v1, vs1, d1, ds1, p1, q1, rfl, rfl, rfl, h1, r1⟩ := trodAll_cons r0
  obtain ⟨v2, vs2, d2, ds2, p2, q2, rfl, rfl, rfl, h2, r2⟩ := trodAll_cons r1
  obtain ⟨v3, vs3, d3, ds3, p3, q3, rfl, rfl, rfl, h3, r3⟩ := trodAll_cons r2
  obtain ⟨rfl, rfl, rfl⟩ := trodAll_nil r3
  obtain rfl : args = #[v0, v1, v2, v3] := by cases args; simp_all
  obtain ⟨rfl, rfl⟩ := trodVars_none hV
  obtain ⟨x0, rfl, rfl, rfl, w0⟩ := open_int Ybaf.underlying2 (hval 0 2 v0 rfl rfl) h0
  obtain ⟨x1, rfl, rfl, rfl, w1⟩ := open_int Ybaf.underlying2 (hval 1 2 v1 rfl rfl) h1
  obtain ⟨a2, len2, cap2, rfl⟩ := okWide_slice Ybaf.underlying22 (hval 2 22 v2 rfl rfl)
  obtain ⟨a3, len3, cap3, rfl⟩ := okWide_slice Ybaf.underlying23 (hval 3 23 v3 rfl rfl)
  obtain ⟨f, hf⟩ := terms_of h2
  obtain ⟨g, hg⟩ := vals_of h3
  have lt2 : ∀ y ∈ p2, y.block < W.heap.size := by obtain ⟨m, hm⟩ := h2; exact DataW.trod_lt m _ _ _ hm
  have lt3 : ∀ y ∈ p3, y.block < W.heap.size := by obtain ⟨m, hm⟩ := h3; exact DataW.trod_lt m _ _ _ hm
  clear hA0 hval0
  refine (walk F.told x0 x1 len2 cap2 len3 cap3 a2 a3 f g W hF (bounds_i64 w0) hf hg).mono fun e W' ⟨he, bel⟩ => ?_
  subst he
  exact ⟨_, rfl, _, _, _, [], _, [], hW', trodAll_mk1 (shut_bool Ybaf.underlying4 _), (trodAll_cons_mk (shut_int Ybaf.underlying2 w0) (trodAll_cons_mk (shut_int Ybaf.underlying2 w1) (trodAll_cons_mk (Below.trod laidOut' (by kernel_rfl) (of_decide_eq_true (by kernel_rfl)) h2 bel lt2) (trodAll_cons_mk (Below.trod laidOut' (by kernel_rfl) (of_decide_eq_true (by kernel_rfl)) h3 bel lt3) trodAll_mk0)))), rfl, bel.frame _, fun h => by cases h⟩

theorem proved : Rows.LawS4131CEvalToldSaid :=
  Claim7.holds_of_told_any 3 Ybaf.f3 "fmt.errorf" [] [] _ _ _ (by kernel_rfl) rfl rfl rfl laidOut (by kernel_rfl) rfl ⟨rfl, rfl, rfl, rfl, rfl, rfl, rfl⟩ rfl rfl (by kernel_rfl) (by kernel_rfl) Ybaf.func3 (by kernel_rfl)
    (of_decide_eq_true (by kernel_rfl)) (of_decide_eq_true (by kernel_rfl)) stops.symm rfl stopKnobs.symm (by kernel_rfl)
    (by kernel_rfl) (by kernel_rfl) (by kernel_rfl) (by kernel_rfl) (by kernel_rfl) (by kernel_rfl) (by kernel_rfl) (by kernel_rfl) (by kernel_rfl) rfl (by kernel_rfl) rfl rfl
    rfl rfl
    rfl (by kernel_rfl) (by kernel_rfl) (by kernel_rfl) (by decide) (by kernel_rfl)
    (OpenClaim.moreEntering_of (by kernel_rfl) (by kernel_rfl) (by kernel_rfl) (by kernel_rfl) (by kernel_rfl) (by kernel_rfl) (by kernel_rfl) (by kernel_rfl) (by kernel_rfl) (by kernel_rfl))
    ⟨_, WideRow.started_initial, quiet _⟩
    (fun os started _ H enc _ => lifted os started H enc)
end Go.Proofs.YbulkcgnkFmt.lawS4131CEval
