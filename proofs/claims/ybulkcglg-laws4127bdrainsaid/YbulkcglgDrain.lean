
import Derived.Deep.DeepMust
import Derived.Deep.CutRange
import Derived.Test.YbulkcglgDrainParts
namespace Go.Proofs.Ybulkcglg
open Go.RowKit HeapLaw
attribute [local go_sem ↓] Go.wp_at_zero Go.wp_at_succ

set_option maxHeartbeats 1000000 in
theorem drain_some (w : World) (b off len cap : Nat) (z : Nat → Int) (hb : b < w.heap.size) (hlen : 1 ≤ len) (hmax : len ≤ 1024)
    (c0 : ∀ j, j < len → w.cell? ⟨b, off + j, none⟩ = some (.int .i64 (z j))) :
    Calls Yba.prog 4 #[.slice (some ⟨b, off, none⟩) len cap] w fun e w' => e = .returned (.bool true) ∧ Below w.heap.size w w' := by
  have e1 : decide ((1024 : Int) < (len : Int)) = false := by simp; omega
  go_enter Yba.func4, Yba.ntmps4
  go_wp2
  obtain ⟨i27, hi27, hz27, hs27, hb27⟩ := info_parts Yba.info27
  go_loopw [5] (fun i wr => ∃ (k : Nat) (v : Value), k ≤ len ∧ i = .int .i64 k ∧ wr.heap[w.heap.size]? = some (.cells #[cmpF, v] 30 (0, 0)) ∧ wr.ownsRow (w.heap.size + 1) 27 2 v k (pcells z k) ∧ Below w.heap.size w wr) (fun i _ => len - (intOf i).toNat)
  case atStart => exact ⟨0, .slice none 0 0, by omega, rfl, heap_alloc_new _ _, World.ownsRow_nil _ _ _ _, (Below.refl _ _).alloc (Nat.le_refl _) _⟩
  case round =>
    obtain ⟨k, v, hk, rfl, hH, hown, hB⟩ := hrel
    have hltH : w.heap.size < wr.heap.size := (Array.getElem?_eq_some_iff.1 hH).1
    by_cases hlt : k < len
    · have q0 : wr.cell? ⟨w.heap.size, 1, none⟩ = some v := by simp [World.cell?, hH]
      have q1 : wr.frozen? ⟨w.heap.size, 1, none⟩ = false := by simp [World.frozen?, hH]
      have q2 : wr.cell? ⟨b, off + k, none⟩ = some (.int .i64 (z k)) := (hB.cell (p := ⟨b, off + k, none⟩) hb).trans (c0 k hlt)
      have qf : ∀ o, (wr.alloc o).frozen? ⟨w.heap.size, 1, none⟩ = false := fun o => (World.frozen?_of_block (w := wr) (Below.heap_alloc wr o w.heap.size hltH)).trans q1
      have ag : v.ownBlock ≠ some w.heap.size := fun e => by have := (hown.lt _ e).1; omega
      have ab : v.ownBlock ≠ some b := fun e => by have := (hown.lt _ e).1; omega
      have ki : (k : Int) < (len : Int) := by omega
      have ki0 : (0 : Int) ≤ (k : Int) := by omega
      have hbr : b < wr.heap.size := by omega
      have HH : Hid (wr.heap[w.heap.size]? = some (.cells #[cmpF, v] 30 (0, 0)) ∧ wr.ownsRow (w.heap.size + 1) 27 2 v k (pcells z k)) := ⟨hH, hown⟩
      clear hH hown c0
      go_wp2
      go_region_law ((refine step_append_lies _ (by rfl) _ _ _ (by rfl) (w.heap.size + 1) 27 i27 _ 2 16 Yba.underlying23 hi27 hz27 hs27 hb27 rfl (by omega) v k (pcells z k) (by rfl) ((HH.out.2.alloc _).drew) ⟨wr.heap.size, 0, none⟩ 1 1 [.int .i64 (z k), .int .i64 (k : Int)] (by rfl) (by rfl) (World.news_of_block (cs := #[.int .i64 (z k), .int .i64 (k : Int)]) (t := 27) (fr := (0, 0)) (heap_alloc_new wr _)) (by simp [Value.oneCell']) (by omega) (by unfold maxLen; omega) (by omega) (by simp; omega) (wr.heap.size + 1) (by simp) ?_; intro gg cp w1 hown1 hgrow hat hlt1; have s0 : w1.cell? ⟨w.heap.size, 1, none⟩ = some v := (hgrow.cell_far ⟨w.heap.size, 1, none⟩ (by simp; omega) (Ne.symm ag)).trans (cell_alloc_some' q0); have s1 : w1.frozen? ⟨w.heap.size, 1, none⟩ = false := (hgrow.frozen_far ⟨w.heap.size, 1, none⟩ (by simp; omega) (Ne.symm ag)).trans (qf _); have fin := push_world HH.out.1 HH.out.2 hB hown1 hgrow; clear hown1 hgrow))
      all_goals
        go_wp2
        go_roundw
        case rel => exact ⟨k + 1, _, by omega, by go_num, fin⟩
        case measure => simp [intOf]; omega
    · have e : len = k := by omega
      subst e
      obtain ⟨G, cp, rfl, hG1, hG2⟩ := hown.form (by omega)
      have hP := prs_of_own hown
      have hcp := own_cap hown
      have hR : wr.rowIs w.heap.size 30 2 (heapCells cmpF G len cp) := ⟨_, hH, rfl, fun i hi => by match i, hi with | 0, _ => rfl | 1, _ => rfl⟩
      clear hH hown
      have hGH : G ≠ w.heap.size := by omega
      go_wp2_with (go_at_call 8; refine (init_any _ w.heap.size G len cp len _ (Nat.le_refl _) (by omega) hGH hR hP).mono ?_; rintro e w2 ⟨rfl, g, r1, r2, r3, r4, r5⟩)
      rw [run_make0 _ _ (by omega)]
      have hB2 : Below w.heap.size w w2 := hB.trans (r3.below (by omega) (by simp; omega))
      have s2 : G < w2.heap.size := r2.lt
      have o1 := prs_made w2 len
      have o2 : (w2.alloc (.cells (zeroPairs len) 27)).rowIs w.heap.size 30 2 (heapCells cmpF G len cp) := r1.alloc _
      have o3 : Prs (w2.alloc (.cells (zeroPairs len) 27)) G 27 len g := r2.alloc _
      have o4 : Below w.heap.size w (w2.alloc (.cells (zeroPairs len) 27)) := hB2.alloc hB2.size _
      have hD0 : Drain (lst len fun k => (z k, (k : Int))) [] len g := ⟨by simpa using r5, by simp, by simp, r4⟩
      generalize (w2.alloc (.cells (zeroPairs len) 27)) = w3 at *
      obtain ⟨O, hO⟩ : ∃ O, w2.heap.size = O := ⟨_, rfl⟩
      rw [hO] at o1 s2 ⊢
      have hOG : O ≠ G := by omega
      have hOH : O ≠ w.heap.size := by have := hB2.size; omega
      have hOs : w.heap.size < O := by omega
      clear r1 r2 r3 r4 r5 hO hB2 hR hP hB hltH
      have D0 : Hid (DrainAt w G O len cp z 0 len g (fun _ => (0, 0)) w3) := ⟨o2, o3, o1, o4, hD0⟩
      clear o1 o2 o3 o4 hD0
      go_wp2
      go_loopw [6] (fun s6 wr => ∃ q m g outf, q + m = len ∧ s6 = .slice (some ⟨O, 0, none⟩) q len ∧ DrainAt w G O len cp z q m g outf wr) (fun s6 _ => len - lenOf s6)
      case atStart => exact ⟨0, len, g, _, by omega, rfl, D0.out⟩
      case round =>
        obtain ⟨q, m, g, outf, hqm, rfl, hD⟩ := hrel
        clear D0
        have t1 : wr.cell? ⟨w.heap.size, 1, none⟩ = some (.slice (some ⟨G, 0, none⟩) m cp) := hD.hd.cell (i := 1) (by omega)
        cases m with
        | zero =>
          have HD : Hid (DrainAt w G O len cp z q 0 g outf wr) := hD
          clear hD
          have e : len = q := by omega
          subst e
          go_wp2
          rw [run_make23 _ _ (by omega)]
          have hS : SortAt w O wr.heap.size len outf (fun _ => (0, 0)) (wr.alloc (.cells (zeroPairs len) 27)) := ⟨HD.out.out.alloc _, prs_made wr len, HD.out.below.alloc HD.out.below.size _⟩
          have hOE : O ≠ wr.heap.size := by have := HD.out.out.lt; omega
          have hE : w.heap.size ≤ wr.heap.size := HD.out.below.size
          have HPL : Hid (Drain (lst len fun k => (z k, (k : Int))) (lst len outf) 0 g) := HD.out.plain
          clear HD t1
          generalize (wr.alloc (.cells (zeroPairs len) 27)) = w5 at *
          generalize wr.heap.size = E at *
          have HS : Hid (SortAt w O E len outf (fun _ => (0, 0)) w5) := hS
          clear hS
          go_wp2
          go_loopw [8] (fun i wx => ∃ k : Nat, k ≤ len ∧ i = .int .i64 k ∧ SortAt w O E len outf (fun j => if j < k then (z j, (j : Int)) else (0, 0)) wx) (fun i _ => len - (intOf i).toNat)
          case atStart => exact ⟨0, by omega, rfl, HS.out.congr fun j _ => by simp⟩
          case round =>
            obtain ⟨k, hk, rfl, hSk⟩ := hrel
            clear HS
            by_cases hlt : k < len
            · have d0 : wr.cell? ⟨b, off + k, none⟩ = some (.int .i64 (z k)) := (hSk.below.cell (p := ⟨b, off + k, none⟩) hb).trans (c0 k hlt)
              have d1 := hSk.exp.fst hlt
              have d2 := hSk.exp.snd hlt
              have d3 := hSk.exp.frozen
              have fin : Hid (SortAt w O E len outf (fun j => if j < k + 1 then (z j, (j : Int)) else (0, 0)) ((wr.setCell ⟨E, k * 2, none⟩ (.int .i64 (z k))).setCell ⟨E, k * 2 + 1, none⟩ (.int .i64 (k : Int)))) :=
                (hSk.set hOE hE k (z k) k).congr fun j _ => by
                  by_cases ej : j = k
                  · subst ej; simp
                  · simp only [if_neg ej]
                    by_cases l : j < k
                    · rw [if_pos l, if_pos (by omega)]
                    · rw [if_neg l, if_neg (by omega)]
              have ki : (k : Int) < (len : Int) := by omega
              have ki0 : (0 : Int) ≤ (k : Int) := by omega
              clear hSk c0
              go_wp2
              go_roundw
              case rel => exact ⟨k + 1, by omega, by go_num, fin.out⟩
              case measure => simp [intOf]; omega
            · have e : len = k := by omega
              subst e
              have HS2 : Hid (SortAt w O E len outf (fun j => (z j, (j : Int))) wr) := hSk.congr fun j hj => by rw [if_pos hj]
              clear hSk c0
              go_wp2
              go_loopw [9] (fun s9 wx => ∃ (i : Nat) (e : Nat → Int × Int), 1 ≤ i ∧ i ≤ len ∧ s9 = .int .i64 i ∧ SortAt w O E len outf e wx ∧ Outer z len i e) (fun s9 _ => len - (intOf s9).toNat)
              case atStart => exact ⟨1, _, by omega, by omega, rfl, HS2.out, outer_start z len⟩
              case round =>
                obtain ⟨i, e, hi1, hi, rfl, hSi, hOu⟩ := hrel
                clear HS2
                have HS3 : Hid (SortAt w O E len outf e wr ∧ Outer z len i e) := ⟨hSi, hOu⟩
                clear hSi hOu
                by_cases hlt : i < len
                · have ii : (i : Int) < (len : Int) := by omega
                  go_wp2
                  go_loopw [10] (fun s10 wx => ∃ (j : Nat) (e : Nat → Int × Int), j ≤ i ∧ s10 = .int .i64 j ∧ SortAt w O E len outf e wx ∧ Inner z len i j e) (fun s10 _ => (intOf s10).toNat)
                  case atStart => exact ⟨i, e, Nat.le_refl _, rfl, HS3.out.1, HS3.out.2.inner hlt⟩
                  case round =>
                    obtain ⟨j, e, hj, rfl, hSj, hIn⟩ := hrel
                    clear HS3
                    cases j with
                    | zero =>
                      have e0 : decide ((0 : Int) < ((0 : Nat) : Int)) = false := by decide
                      have fin := hIn.stop hj (fun h => by omega)
                      have HSj : Hid (SortAt w O E len outf e wr) := hSj
                      have HF : Hid (Outer z len (i + 1) e) := fin
                      clear hSj hIn fin
                      go_wp2
                      go_quiet (fail)
                      go_wp2
                      go_roundw
                      case rel => exact ⟨i + 1, e, by omega, by omega, by go_num, HSj.out.drewN nq, HF.out⟩
                      case measure => simp [intOf]; omega
                    | succ j =>
                      have f0 := hSj.exp.fst (j := j) (by omega)
                      have f1 := hSj.exp.snd (j := j) (by omega)
                      have f2 := hSj.exp.fst (j := j + 1) (by omega)
                      have f3 := hSj.exp.snd (j := j + 1) (by omega)
                      have g0 : (0 : Int) < (j : Int) + 1 := by omega
                      have g1 : (j : Int) < (len : Int) := by omega
                      have g2 : (j : Int) + 1 < (len : Int) := by omega
                      have g3 : (0 : Int) ≤ (j : Int) := by omega
                      have HSj : Hid (SortAt w O E len outf e wr ∧ Inner z len i (j + 1) e) := ⟨hSj, hIn⟩
                      clear hSj hIn
                      by_cases hgt : (e (j + 1)).1 < (e j).1
                      · go_wp2
                        go_quiet (fail)
                        have hSy := HSj.out.1.drewN nq
                        have HIn : Hid (Inner z len i (j + 1) e) := HSj.out.2
                        clear f0 f1 f2 f3 HSj
                        generalize wr.drewN nq = wy at *
                        have f2 := hSy.exp.fst (j := j + 1) (by omega)
                        have f3 := hSy.exp.snd (j := j + 1) (by omega)
                        go_upto_region 27 with fail
                        have hSz := hSy.alloc (.cells #[.int .i64 (e (j + 1)).1, .int .i64 (e (j + 1)).2] 27)
                        have t0 : (wy.alloc (.cells #[.int .i64 (e (j + 1)).1, .int .i64 (e (j + 1)).2] 27)).cell? ⟨wy.heap.size, 0, none⟩ = some (.int .i64 (e (j + 1)).1) := cell_new0 wy _ _ 27
                        have t1 : (wy.alloc (.cells #[.int .i64 (e (j + 1)).1, .int .i64 (e (j + 1)).2] 27)).cell? ⟨wy.heap.size, 1, none⟩ = some (.int .i64 (e (j + 1)).2) := cell_new1 wy _ _ 27
                        have hTE : wy.heap.size ≠ E := by have := hSy.exp.lt; omega
                        clear f2 f3 hSy
                        generalize (wy.alloc (.cells #[.int .i64 (e (j + 1)).1, .int .i64 (e (j + 1)).2] 27)) = wz at *
                        generalize wy.heap.size = T at *
                        have S1 := hSz.set hOE hE (j + 1) (e j).1 (e j).2
                        have S2 := S1.set hOE hE j (e (j + 1)).1 (e (j + 1)).2
                        have f0 := hSz.exp.fst (j := j) (by omega)
                        have f1 := hSz.exp.snd (j := j) (by omega)
                        have f2 := hSz.exp.fst (j := j + 1) (by omega)
                        have f3 := hSz.exp.snd (j := j + 1) (by omega)
                        have f4 := S1.exp.fst (j := j) (by omega)
                        have f5 := S1.exp.snd (j := j) (by omega)
                        have fz := hSz.exp.frozen
                        have fz1 := S1.exp.frozen
                        have t2 := cell_two_other (i := (j + 1) * 2) (j := (j + 1) * 2 + 1) (x := .int .i64 (e j).1) (y := .int .i64 (e j).2) t0 hTE
                        have t3 := cell_two_other (i := (j + 1) * 2) (j := (j + 1) * 2 + 1) (x := .int .i64 (e j).1) (y := .int .i64 (e j).2) t1 hTE
                        have HF : Hid (SortAt w O E len outf (swp e j (j + 1)) ((((wz.setCell ⟨E, (j + 1) * 2, none⟩ (.int .i64 (e j).1)).setCell ⟨E, (j + 1) * 2 + 1, none⟩ (.int .i64 (e j).2)).setCell ⟨E, j * 2, none⟩ (.int .i64 (e (j + 1)).1)).setCell ⟨E, j * 2 + 1, none⟩ (.int .i64 (e (j + 1)).2)) ∧ Inner z len i j (swp e j (j + 1))) :=
                          ⟨S2.congr fun x _ => by simp only [swp], HIn.out.step hj hlt hgt⟩
                        clear S1 S2 hSz HIn
                        go_wp2
                        go_roundw
                        case rel => exact ⟨j, _, by omega, by go_num, HF.out⟩
                        case measure => simp [intOf]
                      · have hgt' : decide ((e (j + 1)).1 < (e j).1) = false := by simpa using hgt
                        have fin := HSj.out.2.stop hj (fun _ => by simp; omega)
                        have HF : Hid (Outer z len (i + 1) e) := fin
                        clear fin hgt
                        go_wp2
                        go_quiet (fail)
                        go_wp2
                        go_roundw
                        case rel => exact ⟨i + 1, e, by omega, by omega, by go_num, HSj.out.1.drewN nq, HF.out⟩
                        case measure => simp [intOf]; omega
                · have e' : len = i := by omega
                  subst e'
                  have hmeet := meet HPL.out HS3.out.2
                  have hpt : ∀ x, x < len → outf x = e x := fun x hx => by
                    have h1 := lst_get (f := outf) hx
                    rw [hmeet, lst_get hx] at h1
                    simpa using h1.symm
                  have HS4 : Hid (SortAt w O E len e e wr) := ⟨HS3.out.1.out.congr hpt, HS3.out.1.exp, HS3.out.1.below⟩
                  clear HS3 hmeet hpt
                  go_wp2
                  go_loopw [12] (fun s12 wx => ∃ y : Nat, y ≤ len ∧ s12 = .int .i64 y ∧ SortAt w O E len e e wx) (fun s12 _ => len - (intOf s12).toNat)
                  case atStart => exact ⟨0, by omega, rfl, HS4.out⟩
                  case round =>
                    obtain ⟨y, hy, rfl, hSy⟩ := hrel
                    clear HS4
                    by_cases hyl : y < len
                    · have f0 := hSy.out.fst hyl
                      have f1 := hSy.out.snd hyl
                      have f2 := hSy.exp.fst hyl
                      have f3 := hSy.exp.snd hyl
                      have yi : (y : Int) < (len : Int) := by omega
                      have yi0 : (0 : Int) ≤ (y : Int) := by omega
                      have HS5 : Hid (SortAt w O E len e e wr) := hSy
                      clear hSy
                      go_wp2
                      go_quiet (fail)
                      go_wp2
                      go_roundw
                      case rel => exact ⟨y + 1, by omega, by go_num, HS5.out.drewN nq⟩
                      case measure => simp [intOf]; omega
                    · go_wp2
                      go_ret
                      exact ⟨rfl, hSy.below⟩
        | succ m =>
          have t2 : wr.cell? ⟨G, 0, none⟩ = some (.int .i64 (g 0).1) := by simpa using hD.row.fst (j := 0) (by omega)
          have t3 : wr.cell? ⟨G, 1, none⟩ = some (.int .i64 (g 0).2) := by simpa using hD.row.snd (j := 0) (by omega)
          have HD : Hid (DrainAt w G O len cp z q (m + 1) g outf wr) := hD
          clear hD
          have m0 : (0 : Int) < (m : Int) + 1 := by omega
          have m1 : (0 : Int) < ((m + 1 : Nat) : Int) := by omega
          have hOT : O < wr.heap.size := HD.out.out.lt
          go_wp2_with (at_builtin; go_must (refine wpList_out _ rfl (.tmp 41) (.tmp 46) rfl O q len outf rfl (HD.out.out.alloc _) (by omega) ⟨wr.heap.size, 0, none⟩ (g 0).1 (g 0).2 rfl (cell_new0 _ _ _ _) (cell_new1 _ _ _ _) ?_); intro w4 p1 p2)
          have hGs : w.heap.size < G := by omega
          refine (pop_any w4 w.heap.size G m cp len cmpF g (by omega) (by omega) (by omega) hGH (p2.rowIs (HD.out.hd.alloc _) (by simp [Ne.symm hOH])) (p2.prs (HD.out.row.alloc _) (by simp [Ne.symm hOG]))).mono ?_
          rintro e w5 ⟨rfl, a1, a2, a3⟩
          have a4 : Hp (dropped m g) m 1 := hp_drop HD.out.plain.heap (fun i h1 h2 => by simp only [dropped]; rw [if_neg (by omega), if_neg (by omega)])
          go_wp2_with (go_at_call 9; refine (down_zero w5 w.heap.size G m cp len _ (by omega) (by omega) hGH a1 a2 a4).mono ?_; rintro e w6 ⟨rfl, g2, b1, b2, b3, b4, b5⟩)
          have fin := HD.out.step hOG hOH hGs hOs p1 p2 a3 b3 b1 b2 b4 b5
          go_roundw
          case rel => exact ⟨q + 1, m, g2, _, by omega, rfl, fin⟩
          case measure => simp [lenOf]; omega
end Go.Proofs.Ybulkcglg
