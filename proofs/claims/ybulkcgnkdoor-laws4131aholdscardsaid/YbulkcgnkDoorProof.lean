import Derived.Test.YbulkcgnkDoorFrame
import Derived.Test.YbulkcgnkDoorCards
import Derived.Test.YbulkcgnkDoorTie
import Derived.JoinedOf
import Derived.Handed
import Derived.SevenTiedAt
namespace Go.Proofs.YbulkcgnkDoor.lawS4131AHolds
open Go.ChangeShapes Go.WideShapes Go.ChangeAt Go.RowKit Go.Deep

theorem own : ownKnob Ybad.prog.godebug = none := by kernel_rfl
theorem laidOut : laidOutB Ybad.prog = true := by kernel_rfl

/-- A world that meets the condition: the settled one, the table laid. -/
def layKinds (w : World) : World :=
  { w with heap := w.heap.modify 0 fun
      | .cells _ t frozen => .cells cells9 t frozen
      | o => o }
theorem laid_met (os : Os) (args : Array Value) : laidMet Ybad.prog Rows.lawS4131AHoldsRow.laid ((layKinds (World.holding Ybad.prog os ⟨#[], #[], []⟩)).forCall (fun _ _ => 0) ⟨#[], args, []⟩).memory :=
  laidMet_of_run (ps := [.cell 0 0, .cell 0 1, .cell 0 2, .cell 0 3, .cell 0 4, .cell 0 5, .cell 0 6, .cell 0 7, .cell 0 8]) 8 (by kernel_rfl) (by kernel_rfl) (by kernel_rfl)

set_option maxRecDepth 100000 in
theorem lifted (os : Os) (started : os.Started) (H : Type) (enc : TypeId × Value → H) :
    ReturnsInHanded {} Ybad.checked os 3 .any (fun w args => (Rows.lawS4131AHoldsSpec.pre enc Ybad.prog Ybad.f3 Rows.lawS4131AHoldsRow.domain false w args ∧ laidMet Ybad.prog Rows.lawS4131AHoldsRow.laid w) ∧ sizedMet enc Ybad.prog Ybad.f3 (OpenSpec.ofChange Rows.lawS4131AHoldsSpec) false w args)
      (Rows.lawS4131AHoldsSpec.post enc Ybad.prog Ybad.f3 false true false false) := by
  refine returnsInHanded_of_change_and (C := Ybad.checked) (X := fun w _ => laidMet Ybad.prog Rows.lawS4131AHoldsRow.laid w) (fun _ _ _ hh h => h.of_heap hh) own started (by kernel_rfl) Ybad.func3
    (ChangeSpec.witness_at (enc := enc) (C := Ybad.checked) (os := os) (X := fun w _ => laidMet Ybad.prog Rows.lawS4131AHoldsRow.laid w) false (layKinds (World.holding Ybad.prog os ⟨#[], #[], []⟩)) #[.int .u8 0, .slice none 0 0] 8 rfl (by kernel_rfl) (by kernel_rfl) (by kernel_rfl) (by kernel_rfl) (by kernel_rfl) (laid_met os _)) ?_
  intro W base args ds gs before hval0 hW _ _ hL _
  have hval : ∀ (j : Nat) t v, Ybad.f3.params[j]? = some t → args[j]? = some v → Value.okWide Ybad.prog W .any base t v := hval0
  have hW' := hW
  obtain ⟨p, q, hA0, hV0, rfl, hfz, hnd⟩ := hW
  have hA : DataW.TrodAll enc Ybad.prog W 0 (fun _ => true) true Ybad.f3.params.toList args.toList ds p := hA0
  have hV : DataW.TrodVars enc Ybad.prog W (fun _ => true) [kn] gs q := hV0
  rw [Ybad.params3] at hA hval
  obtain ⟨v0, vs0, d0, ds0, p0, q0, hargs, rfl, rfl, h0, r0⟩ := trodAll_cons hA
  obtain ⟨v1, vs1, d1, ds1, p1, q1, rfl, rfl, rfl, h1, r1⟩ := trodAll_cons r0
  obtain ⟨rfl, rfl, rfl⟩ := trodAll_nil r1
  obtain rfl : args = #[v0, v1] := by cases args; simp_all
  obtain ⟨g, t, cs, fuel, d, p', rfl, hg, ht, hvar, hd, rfl⟩ := trodVars_one hV
  obtain rfl := Option.some.inj (Ybad.kindsAt.symm.trans hg)
  obtain rfl := Option.some.inj (Ybad.kindsType.symm.trans ht)
  obtain rfl : cs = cells9 := Option.some.inj (hvar.symm.trans (cells_of_laid hL))
  obtain ⟨rfl, rfl⟩ := DataW.Trod.unique (v := .agg cells9) ⟨fuel, hd⟩ ⟨3, reads_kinds enc W _⟩
  have hK := kindsAt_of_laid hvar
  obtain ⟨x, rfl, rfl, rfl, wx⟩ := open_int Ybad.underlying5 (hval 0 5 v0 rfl rfl) h0
  obtain ⟨a1, len1, cap1, rfl⟩ := okWide_slice Ybad.underlying22 (hval 1 22 v1 rfl rfl)
  obtain ⟨F, hF⟩ := steps_of_trod h1
  have lt1 : ∀ y ∈ p1, y.block < W.heap.size := by obtain ⟨m, hm⟩ := h1; exact DataW.trod_lt m _ _ _ hm
  obtain ⟨x0, x1⟩ := bounds_u8 wx
  obtain ⟨xn, rfl⟩ : ∃ xn : Nat, x = (xn : Int) := ⟨x.toNat, by omega⟩
  clear hA0 hV0 hval0
  refine (holds_any W xn len1 cap1 a1 F (by omega) hF hK).mono fun e W' ⟨he, bel⟩ => ?_
  subst he
  have hv' : W'.var? Ybad.prog kn = some cells9 := by
    have hb := bel.block 0 (World.block_lt_of_cell? W _ (hK 0 (by omega)))
    unfold World.var? at hvar ⊢
    rw [Ybad.kindsAt] at hvar ⊢
    simp only [Option.bind_some] at hvar ⊢
    rw [hb]
    exact hvar
  exact ⟨_, rfl, _, _, _, [], _, _, hW', trodAll_mk1 (shut_bool Ybad.underlying4 _), (trodAll_cons_mk (shut_int Ybad.underlying5 wx) (trodAll_cons_mk (Below.trod laidOut (by kernel_rfl) (of_decide_eq_true (by kernel_rfl)) h1 bel lt1) trodAll_mk0)),
    ⟨0, 53, cells9, 3, [], [], hg, ht, hv', reads_kinds enc W' _, rfl, rfl⟩, bel.frame _, fun h => by cases h⟩

theorem over : Rows.LawS4131AHoldsSaid :=
  OpenClaim.holds_of_wide 3 Ybad.f3 rfl rfl rfl rfl rfl rfl rfl ⟨rfl, rfl, rfl, rfl, rfl⟩ rfl rfl rfl rfl rfl (by kernel_rfl) Ybad.func3 (by kernel_rfl)
    (of_decide_eq_true (by kernel_rfl)) (by unfold Func.isWrapper; first | (rw [if_pos (by decide +kernel)]; kernel_rfl) | (rw [if_neg (by decide +kernel)]; exact ⟨rfl, rfl⟩))
    (fun os started H enc _ => lifted os started H enc)

theorem proved : Rows.LawS4131AHoldsCardSaid :=
  Claim7.holds_tied_plain_at .later [] [.data] true (true, "b32a1ffc57022a50b38a39e51aec2413452b48b722f6fd6d11fc380f80cdbebc") false
    over (fun _ h => by cases h) (by kernel_rfl) (fun _ h => by cases h) lawS4131AHolds_row_tie rfl ⟨rfl, rfl⟩ (by kernel_rfl) rfl
    (fun f fn hf hfn => by
      obtain rfl : f = 3 := Option.some.inj ((show Ybad.prog.funcNamed Rows.lawS4131AHoldsRow.func = some 3 by kernel_rfl).symm.trans hf) |>.symm
      obtain rfl : fn = Ybad.f3 := (Option.some.inj (Ybad.func3.symm.trans hfn)).symm
      exact ⟨by kernel_rfl, fun j t ht => by
        rw [Ybad.params3] at ht
        have h3 : t = 5 ∨ t = 22 := by
          rcases j with _ | j
          · exact .inl (by simpa using ht.symm)
          · rcases j with _ | j
            · exact .inr (by simpa using ht.symm)
            · simp at ht
        rcases h3 with rfl | rfl
        · exact (show Ybad.prog.wantsStandIn 5 = false by kernel_rfl)
        · exact (show Ybad.prog.wantsStandIn 22 = false by kernel_rfl)⟩)
    (by kernel_rfl)
end Go.Proofs.YbulkcgnkDoor.lawS4131AHolds
