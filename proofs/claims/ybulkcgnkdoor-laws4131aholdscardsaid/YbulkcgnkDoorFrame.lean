import Derived.Test.YbulkcgnkDoorLaw
import Derived.ProofKit
import Derived.OpenShut
import Derived.ChangeOld
import Derived.Deep.SlicePairs
import Derived.LaidLaws
import Derived.ChangeVars
namespace Go.Proofs.YbulkcgnkDoor
open Go.ChangeShapes Go.WideShapes Go.ChangeAt Go.RowKit Go.Deep

/-- The table's name. -/
abbrev kn : String := Rows.lawS4131AHoldsSpec.vars.headD ""

theorem Ybad.kindsAt : Ybad.prog.globalNamed kn = some 0 := by kernel_rfl
theorem Ybad.kindsType : (Ybad.prog.globals[0]?).map (·.type) = some 53 := by kernel_rfl
theorem Ybad.cells53 : Ybad.prog.cellsOf 53 = 9 := by kernel_rfl
theorem Ybad.cells27 : Ybad.prog.cellsOf 27 = 1 := by kernel_rfl
theorem Ybad.cells25 : Ybad.prog.cellsOf 25 = 3 := by kernel_rfl
theorem Ybad.cells5 : Ybad.prog.cellsOf 5 = 1 := by kernel_rfl

def cells9 : Array Value := #[.int .i64 0, .int .i64 5, .int .i64 6, .int .i64 7, .int .i64 8, .int .i64 9, .int .i64 11, .int .i64 12, .int .i64 13]

theorem int_of_trod {H : Type} {enc : TypeId × Value → H} {P : Program} {w : World} {base : Nat} {sp : Nat → Bool} {held : Bool} {fuel : Nat} {t : TypeId} {k : IntKind} {c : Value} {y : DataW H × List MemPlace}
    (ht : P.underlying t = some (.int k)) (h : DataW.trod enc P w base sp held fuel t [c] = some y) : ∃ n, c = .int k n ∧ y = (.lit (.int k n), []) := by
  cases fuel with
  | zero => simp [DataW.trod] at h
  | succ fuel =>
    cases c <;> simp [DataW.trod, ht] at h
    rename_i k' n
    obtain ⟨⟨rfl, _⟩, rfl⟩ := h
    exact ⟨n, rfl, rfl⟩

theorem cells_of_laid {W : World} (h : laidMet Ybad.prog Rows.lawS4131AHoldsRow.laid W) : W.var? Ybad.prog kn = some cells9 := by
  obtain ⟨ps, ⟨g, t, cs, fuel, p, q, hg, ht, hvar, hd, _, _⟩, _⟩ := h
  obtain rfl := Option.some.inj (Ybad.kindsAt.symm.trans hg)
  obtain rfl := Option.some.inj (Ybad.kindsType.symm.trans ht)
  refine hvar.trans ?_
  congr 1
  obtain ⟨l⟩ := cs
  cases fuel with
  | zero => simp [DataW.trod] at hd
  | succ fuel =>
    simp only [DataW.trod, Ybad.underlying53, Ybad.cells53, Ybad.cells27] at hd
    split at hd
    · rename_i hl
      obtain ⟨c0, c1, c2, c3, c4, c5, c6, c7, c8, rfl⟩ : ∃ c0 c1 c2 c3 c4 c5 c6 c7 c8, l = [c0, c1, c2, c3, c4, c5, c6, c7, c8] := by
        match l, hl with
        | [a, b, c, d, e, f, g, h, i], _ => exact ⟨a, b, c, d, e, f, g, h, i, rfl⟩
      have e : List.range 9 = [0, 1, 2, 3, 4, 5, 6, 7, 8] := rfl
      rw [e] at hd
      simp only [Option.map_eq_some_iff, List.mapM_cons, List.mapM_nil, Option.bind_eq_bind, Option.bind_eq_some_iff, Option.pure_def, Option.some.injEq] at hd
      obtain ⟨xs, ⟨y0, h0, _, ⟨y1, h1, _, ⟨y2, h2, _, ⟨y3, h3, _, ⟨y4, h4, _, ⟨y5, h5, _, ⟨y6, h6, _, ⟨y7, h7, _, ⟨y8, h8, _, rfl, rfl⟩, rfl⟩, rfl⟩, rfl⟩, rfl⟩, rfl⟩, rfl⟩, rfl⟩, rfl⟩, hx⟩ := hd
      obtain ⟨n0, rfl, rfl⟩ := int_of_trod Ybad.underlying27 h0
      obtain ⟨n1, rfl, rfl⟩ := int_of_trod Ybad.underlying27 h1
      obtain ⟨n2, rfl, rfl⟩ := int_of_trod Ybad.underlying27 h2
      obtain ⟨n3, rfl, rfl⟩ := int_of_trod Ybad.underlying27 h3
      obtain ⟨n4, rfl, rfl⟩ := int_of_trod Ybad.underlying27 h4
      obtain ⟨n5, rfl, rfl⟩ := int_of_trod Ybad.underlying27 h5
      obtain ⟨n6, rfl, rfl⟩ := int_of_trod Ybad.underlying27 h6
      obtain ⟨n7, rfl, rfl⟩ := int_of_trod Ybad.underlying27 h7
      obtain ⟨n8, rfl, rfl⟩ := int_of_trod Ybad.underlying27 h8
      simp [Rows.laid_example_com_serialix_serialix_pkg_lock_kinds] at hx
      obtain ⟨⟨rfl, rfl, rfl, rfl, rfl, rfl, rfl, rfl, rfl⟩, _⟩ := hx
      rfl
    · cases hd

theorem kindsAt_of_laid {W : World} (h : W.var? Ybad.prog kn = some cells9) : KindsAt W := by
  intro j hj
  have := World.var?_cell Ybad.kindsAt h j
  rw [this]
  match j, hj with
  | 0, _ => rfl
  | 1, _ => rfl
  | 2, _ => rfl
  | 3, _ => rfl
  | 4, _ => rfl
  | 5, _ => rfl
  | 6, _ => rfl
  | 7, _ => rfl
  | 8, _ => rfl

theorem reads_kinds {H : Type} (enc : TypeId × Value → H) (W : World) (sp : Nat → Bool) : DataW.trod enc Ybad.prog W 0 sp true 3 53 cells9.toList = some (Rows.laid_example_com_serialix_serialix_pkg_lock_kinds, []) := by kernel_rfl

/-- A slice of structs of three one-cell fields, opened at every index. -/
theorem open_slice_triples {H : Type} {enc : TypeId × Value → H} {P : Program} {w : World} {base : Nat} {spare : Nat → Bool} {held : Bool} {t e : TypeId} {f0 f1 f2 : Field} {fuel : Nat} {cs : List Value} {x : DataW H × List MemPlace}
    (ht : P.underlying t = some (.slice e)) (he : P.underlying e = some (.struct #[f0, f1, f2])) (ce : P.cellsOf e = 3) (o0 : f0.offset = 0) (o1 : f1.offset = 1) (o2 : f2.offset = 2)
    (c0 : P.cellsOf f0.type = 1) (c1 : P.cellsOf f1.type = 1) (c2 : P.cellsOf f2.type = 1) (h : DataW.trod enc P w base spare held fuel t cs = some x) :
    cs = [.slice none 0 0] ∨
    ∃ (a : Addr) (len cap : Nat), cs = [.slice (some a) len cap] ∧ ∀ i, i < len → ∃ v0 v1 v2 n y0 y1 y2, w.cell? (a.add (i * 3)) = some v0 ∧ w.cell? (a.add (i * 3 + 1)) = some v1 ∧ w.cell? (a.add (i * 3 + 2)) = some v2 ∧
      DataW.trod enc P w base spare held n f0.type [v0] = some y0 ∧ DataW.trod enc P w base spare held n f1.type [v1] = some y1 ∧ DataW.trod enc P w base spare held n f2.type [v2] = some y2 := by
  rcases open_slice ht h with ⟨h0, _⟩ | ⟨a, len, cap, m, n, D, Pl, rfl, hb, hl, hm, hmm, rfl, hx⟩
  · exact Or.inl h0
  have hlm : len ≤ m := by rw [hmm]; split <;> omega
  refine .inr ⟨a, len, cap, rfl, fun i hi => ?_⟩
  obtain ⟨cs', h1, h2⟩ := hx i (by omega)
  rw [ce] at h1
  obtain ⟨_, hlen, hcell⟩ := World.cells?_some h1
  obtain ⟨xs, k, hk, hxy, _, hxl, hf⟩ := DataW.trod_struct he h2
  match xs, hxl, cs', hlen with
  | [y0, y1, y2], _, [v0, v1, v2], _ =>
    have g0 := hf 0 f0 rfl
    have g1 := hf 1 f1 rfl
    have g2 := hf 2 f2 rfl
    simp [o0, o1, o2, c0, c1, c2] at g0 g1 g2
    have e0 := hcell 0 (by omega)
    have e1 := hcell 1 (by omega)
    have e2 := hcell 2 (by omega)
    rw [add_add] at e0 e1 e2
    exact ⟨v0, v1, v2, k, y0, y1, y2, by simpa using e0, by simpa using e1, by simpa using e2, g0, g1, g2⟩

/-- What the walk is told of the slice that came in. -/
theorem steps_of_trod {H : Type} {enc : TypeId × Value → H} {W : World} {a : Option Addr} {len cap : Nat} {d : DataW H} {p : List MemPlace} (h : DataW.Trod enc Ybad.prog W 0 (fun _ => true) true 22 (.slice a len cap) d p) : ∃ F, StepsAt W a len F := by
  obtain ⟨fuel, hf⟩ := h
  rcases open_slice_triples Ybad.underlying22 Ybad.underlying25 Ybad.cells25 rfl rfl rfl Ybad.cells5 Ybad.cells5 Ybad.cells5 hf with hcs | ⟨ad, l, c, hcs, hx⟩
  · simp [Value.cells] at hcs
    obtain ⟨rfl, rfl, rfl⟩ := hcs
    exact ⟨fun _ _ => 0, fun j hj => by omega⟩
  · simp [Value.cells] at hcs
    obtain ⟨rfl, rfl, rfl⟩ := hcs
    obtain ⟨b, off, spot⟩ := ad
    have hvals : ∀ j, j < len → ∃ q : Nat × Nat × Nat, spot = none ∧ W.cell? ⟨b, off + j * 3, none⟩ = some (.int .u8 (q.1 : Int)) ∧ q.1 < 256 ∧ W.cell? ⟨b, off + j * 3 + 1, none⟩ = some (.int .u8 (q.2.1 : Int)) ∧ q.2.1 < 256 ∧ W.cell? ⟨b, off + j * 3 + 2, none⟩ = some (.int .u8 (q.2.2 : Int)) ∧ q.2.2 < 256 := by
      intro j hj
      obtain ⟨v0, v1, v2, n, y0, y1, y2, z0, z1, z2, t0, t1, t2⟩ := hx j hj
      have hspot : spot = none := by
        obtain ⟨_, _, _, _, _, _, _, zz, _⟩ := hx 0 (by omega)
        simpa [Addr.add] using World.cell?_spot zz
      subst hspot
      obtain ⟨x0, e0, _, w0⟩ := DataW.trod_int Ybad.underlying5 t0
      obtain ⟨x1, e1, _, w1⟩ := DataW.trod_int Ybad.underlying5 t1
      obtain ⟨x2, e2, _, w2⟩ := DataW.trod_int Ybad.underlying5 t2
      simp at e0 e1 e2
      subst e0 e1 e2
      obtain ⟨a0, b0⟩ := bounds_u8 w0
      obtain ⟨a1, b1⟩ := bounds_u8 w1
      obtain ⟨a2, b2⟩ := bounds_u8 w2
      refine ⟨(x0.toNat, x1.toNat, x2.toNat), rfl, ?_, by simp only []; omega, ?_, by simp only []; omega, ?_, by simp only []; omega⟩
      · rw [add_plain] at z0; rw [z0, Int.toNat_of_nonneg a0]
      · rw [add_plain] at z1; rw [Nat.add_assoc, z1, Int.toNat_of_nonneg a1]
      · rw [add_plain] at z2; rw [Nat.add_assoc, z2, Int.toNat_of_nonneg a2]
    obtain ⟨q, hq⟩ := choose_lt hvals
    refine ⟨fun j e => if e = 0 then (q j).1 else if e = 1 then (q j).2.1 else (q j).2.2, fun j hj => ?_⟩
    obtain ⟨rfl, q0, q1, q2, q3, q4, q5⟩ := hq j hj
    refine ⟨b, off, rfl, fun e he => ?_⟩
    match e, he with
    | 0, _ => exact ⟨q0, q1⟩
    | 1, _ => exact ⟨q2, q3⟩
    | 2, _ => exact ⟨q4, q5⟩
end Go.Proofs.YbulkcgnkDoor
