
import Derived.Test.YbulkcglgLess
namespace Go.Proofs.Ybulkcglg
open Go.RowKit HeapLaw

set_option maxHeartbeats 400000 in
theorem down_any (w : World) (H G n cap N s : Nat) (f : Nat → Int × Int) (hs : s < n) (hcap : n ≤ N) (hc0 : N ≤ 1048576) (hGH : G ≠ H)
    (hH : w.rowIs H 30 2 (heapCells cmpF G n cap)) (hG : Prs w G 27 N f) (hp : Hp f n (s + 1)) :
    Calls Yba.prog 9 #[.pointer (some ⟨H, 0, none⟩), .int .i64 (s : Int)] w fun e w' => e = .returned (.tuple #[]) ∧ ∃ g, w'.rowIs H 30 2 (heapCells cmpF G n cap) ∧ Prs w' G 27 N g ∧
      Touch [G] w w' ∧ Hp g n s ∧ (lst n g).Perm (lst n f) := by
  have h1 : w.cell? ⟨H, 1, none⟩ = some (.slice (some ⟨G, 0, none⟩) n cap) := hH.cell (i := 1) (by omega)
  have D0 : Hid (DownAt w H G n cap N s f s f w) := ⟨hH, hG, Touch.refl _ _, Ok.of_hp hp, .inl rfl, List.Perm.refl _⟩
  clear hH hG hp
  go_enter Yba.func9, Yba.ntmps9
  go_wp2
  go_loopw [1] (fun i wr => ∃ c g, c < n ∧ i = .int .i64 (c : Int) ∧ DownAt w H G n cap N s f c g wr) (fun i _ => n - (intOf i).toNat)
  case atStart => exact ⟨s, f, hs, rfl, D0.out⟩
  case round =>
    obtain ⟨c, g, hc, rfl, hD⟩ := hrel
    clear D0
    have g1 : wr.cell? ⟨H, 1, none⟩ = some (.slice (some ⟨G, 0, none⟩) n cap) := hD.hd.cell (i := 1) (by omega)
    have HD : Hid (DownAt w H G n cap N s f c g wr) := hD
    clear hD
    iterate 14 go_step
    go_cut [5] from 13 to 69 (fun s5 wx => s5 = .int .i64 ((pick1 g n c : Nat) : Int) ∧ ∃ k, wx = wr.drewN k)
    case first =>
      by_cases hl : 2 * c + 1 < n
      · have hl' : (2 * (c : Int) + 1) < (n : Int) := by omega
        go_upto_if 25 with (go_at_call 12; refine (less_at _ H G n cap N (2 * c + 1) c _ _ g (by omega) rfl hl hc hcap hc0 HD.out.hd HD.out.row).mono ?_; rintro e w' ⟨rfl, m, rfl⟩)
        cases hb : lessB (g (2 * c + 1)) (g c) with
        | true =>
          go_wp2
          go_meet
          case rel => exact ⟨by simp [pick1, hl, hb], _, rfl⟩
        | false =>
          go_wp2
          go_meet
          case rel => exact ⟨by simp [pick1, hb], _, rfl⟩
      · have hl' : decide ((2 * (c : Int) + 1) < (n : Int)) = false := by simp; omega
        go_wp2
        go_meet
        case rel => exact ⟨by simp [pick1, hl], 0, rfl⟩
    case rest =>
      obtain ⟨rfl, k1, rfl⟩ := hcut
      have hp1 : pick1 g n c < n := by
        rcases pick1_cases g n c with ⟨e, h, _⟩ | ⟨e, _⟩ <;> omega
      obtain ⟨d1, hd1⟩ : ∃ d1, pick1 g n c = d1 := ⟨_, rfl⟩
      have HD1 : Hid (pick1 g n c = d1) := hd1
      rw [hd1] at hp1 ⊢
      clear hd1
      go_step
      go_step
      go_cut [5] from 13 to 69 (fun s5 wx => s5 = .int .i64 ((pick g n c : Nat) : Int) ∧ ∃ k, wx = wr.drewN k)
      case first =>
        by_cases hl : 2 * c + 2 < n
        · have hl' : (2 * (c : Int) + 2) < (n : Int) := by omega
          go_upto_if 38 with (go_at_call 12; refine (less_at _ H G n cap N (2 * c + 2) d1 _ _ g (by omega) rfl hl hp1 hcap hc0 (HD.out.drewN k1).hd (HD.out.drewN k1).row).mono ?_; rintro e w' ⟨rfl, m, rfl⟩)
          cases hb : lessB (g (2 * c + 2)) (g d1) with
          | true =>
            go_wp2
            go_meet
            case rel => exact ⟨by simp [pick, HD1.out, hl, hb], _, rfl⟩
          | false =>
            go_wp2
            go_meet
            case rel => exact ⟨by simp [pick, HD1.out, hb], _, rfl⟩
        · have hl' : decide ((2 * (c : Int) + 2) < (n : Int)) = false := by simp; omega
          go_wp2
          go_meet
          case rel => exact ⟨by simp [pick, HD1.out, hl], _, rfl⟩
      case rest =>
        obtain ⟨rfl, k2, rfl⟩ := hcut
        obtain ⟨d, hd⟩ : ∃ d, pick g n c = d := ⟨_, rfl⟩
        have HDD : Hid (pick g n c = d) := hd
        rw [hd]
        clear hd
        by_cases e : d = c
        · have e' : ((d : Int) == (c : Int)) = true := by simp [e]
          have fin := pick_done hc HD.out.ok (HDD.out.trans e)
          clear e
          go_wp2
          refine bodyPost_ret (results_none rfl _ _ _) rfl ?_
          exact ⟨rfl, g, (HD.out.drewN k2).hd, (HD.out.drewN k2).row, (HD.out.drewN k2).touch, fin, HD.out.perm⟩
        · have e' : ((d : Int) == (c : Int)) = false := by simp; omega
          obtain ⟨ok2, up2, hdn, hcd⟩ := pick_step hc HD.out.ok HD.out.up (by rw [HDD.out]; exact e)
          rw [HDD.out] at ok2 up2 hdn hcd
          have hD2 := HD.out.drewN k2
          generalize wr.drewN k2 = wx at *
          clear HD HDD HD1 g1
          have S1 := hD2.row.set c (g d).1 (g d).2
          have S2 := S1.set d (g c).1 (g c).2
          have k1' : wx.cell? ⟨H, 1, none⟩ = some (.slice (some ⟨G, 0, none⟩) n cap) := hD2.hd.cell (i := 1) (by omega)
          have a0 := hD2.row.fst (j := c) (by omega)
          have a1 := hD2.row.snd (j := c) (by omega)
          have b0 := hD2.row.fst (j := d) (by omega)
          have b1 := hD2.row.snd (j := d) (by omega)
          have c0 := S1.fst (j := d) (by omega)
          have c1 := S1.snd (j := d) (by omega)
          have fz := hD2.row.frozen
          have n1 : (c : Int) < (n : Int) := by omega
          have n2 : (d : Int) < (n : Int) := by omega
          have n3 : (0 : Int) ≤ (c : Int) := by omega
          have n4 : (0 : Int) ≤ (d : Int) := by omega
          have fin : Hid (DownAt w H G n cap N s f d (swp g d c) ((((wx.setCell ⟨G, c * 2, none⟩ (.int .i64 (g d).1)).setCell ⟨G, c * 2 + 1, none⟩ (.int .i64 (g d).2)).setCell ⟨G, d * 2, none⟩ (.int .i64 (g c).1)).setCell ⟨G, d * 2 + 1, none⟩ (.int .i64 (g c).2)).drew) :=
            ⟨World.rowIs.drew ((((hD2.hd.setOther (a := ⟨G, c * 2, none⟩) (Ne.symm hGH) _).setOther (a := ⟨G, c * 2 + 1, none⟩) (Ne.symm hGH) _).setOther (a := ⟨G, d * 2, none⟩) (Ne.symm hGH) _).setOther (a := ⟨G, d * 2 + 1, none⟩) (Ne.symm hGH) _),
              S2.drew.congr (fun j _ => by simp only [swp]), ((((hD2.touch.setCell (a := ⟨G, c * 2, none⟩) (by simp) _).setCell (a := ⟨G, c * 2 + 1, none⟩) (by simp) _).setCell (a := ⟨G, d * 2, none⟩) (by simp) _).setCell (a := ⟨G, d * 2 + 1, none⟩) (by simp) _).drew, ok2, up2,
              (lst_swp g hdn hc).trans hD2.perm⟩
          clear S1 S2 hD2 ok2 up2 e
          go_wp2
          go_region
          go_wp2
          go_roundw
          case rel => exact ⟨d, swp g d c, hdn, rfl, fin.out⟩
          case measure => simp [intOf]; omega
end Go.Proofs.Ybulkcglg
