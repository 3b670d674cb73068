import Derived.Test.YbulkcgnkSearch
import Derived.Deep.LoopGhost
namespace Go.Proofs.Ybulkcgnk
open Go.RowKit
attribute [local go_sem ↓] Go.wp_at_zero Go.wp_at_succ

/-- What the outer loop has. -/
def LI (w wr : World) (n p v dd M g : Nat) (E : List (Nat × Nat)) (fwd : Bool) (Ly : List Nat) (r : Nat → Int) (lv : Value) : Prop :=
  BI n p E fwd v M dd Ly 0 [] r ∧ g = 2 * M + (if Ly = [] then 0 else 1) ∧ dd + g ≤ 2 * p + 1 ∧ DS w wr (w.heap.size + 1) p r lv (.slice none 0 0) Ly []
/-- What the loop over the layer has. -/
def LJ (w wr : World) (n p v dd M g i : Nat) (E : List (Nat × Nat)) (fwd : Bool) (Ly Nx : List Nat) (r : Nat → Int) (lv nv : Value) : Prop :=
  BI n p E fwd v M dd Ly i Nx r ∧ i ≤ Ly.length ∧ g = (Ly.length - i) + outN r dd p ∧ DS w wr (w.heap.size + 1) p r lv nv Ly Nx
/-- What the loop over a point's row has. -/
def LK (w wr : World) (n p v dd M g i y j K : Nat) (E : List (Nat × Nat)) (fwd : Bool) (Ly Nx : List Nat) (r : Nat → Int) (lv nv : Value) : Prop :=
  BJ n p E fwd (adjF E fwd) v M dd Ly i y j Nx r ∧ j ≤ (adjF E fwd y).length ∧ g = (adjF E fwd y).length - j ∧ Ly.length + outN r dd p ≤ K ∧ DS w wr (w.heap.size + 1) p r lv nv Ly Nx

set_option maxHeartbeats 4000000 in
set_option maxRecDepth 4000 in
theorem distances_any (w : World) (B G n p v : Nat) (V : Nat → Value) (E : List (Nat × Nat)) (fwd : Bool) (h : GS B G w n (fun _ => p) V (adjA E)) (hE : ∀ e, e ∈ E → e.1 < p ∧ e.2 < p) (hv : v < p) (hp : p ≤ 512) (hEl : E.length ≤ 1024) :
    Calls Yba.prog 6 #[.pointer (some ⟨G, 0, none⟩), .int .i64 (v : Int), .bool fwd] w fun e w' =>
      ∃ D, e = .returned (.slice (some ⟨w.heap.size + 1, 0, none⟩) p p) ∧ w'.rowIs (w.heap.size + 1) 3 p (ints D) ∧ IsDist n p E fwd v D ∧ Below w.heap.size w w' := by
  obtain ⟨g0, c0, g1, c1, hrd⟩ := rd_of h (by omega : 0 < p) fwd
  have HA : Hid (Adj p E fwd (adjF E fwd)) := adjF_adj fwd hE
  have HE : Hid (∀ e, e ∈ E → e.1 < p ∧ e.2 < p) := hE
  have HR : Hid (RD w n p G E fwd g0 c0 g1 c1) := hrd
  have x1 := hrd.succ
  have x2 := hrd.pred
  have vi : (v : Int) < (p : Int) := by omega
  have vi0 : (0 : Int) ≤ (v : Int) := by omega
  obtain ⟨ga, hga⟩ : ∃ ga, (if fwd then g0 else g1) = ga := ⟨_, rfl⟩
  obtain ⟨ca, hca⟩ : ∃ ca, (if fwd then c0 else c1) = ca := ⟨_, rfl⟩
  have HGA : Hid ((if fwd then g0 else g1) = ga) := hga
  have HCA : Hid ((if fwd then c0 else c1) = ca) := hca
  clear h hE hrd hga hca
  go_enter Yba.func6, Yba.ntmps6
  go_upto_if 21 with fail
  go_cut [7] from 17 to 25 (fun s7 wx => Value.slice (some ⟨ga, 0, none⟩) p ca = s7 ∧ w = wx)
  case first =>
    cases fwd with
    | true =>
      go_wp2
      go_meet
      case rel => exact ⟨by rw [← HGA.out, ← HCA.out]; rfl, rfl⟩
    | false =>
      go_wp2
      go_meet
      case rel => exact ⟨by rw [← HGA.out, ← HCA.out]; rfl, rfl⟩
  case rest =>
    obtain ⟨rfl, rfl⟩ := hcut
    have y1 := fun o => cell_alloc_some (o := o) x1
    go_wp2_with (go_at_call 11; refine (repeat_any _ _ _ p (by omega) hp (by simp)).mono ?_; rintro _ w1 ⟨rfl, hrow, hbel⟩; rw [show (World.alloc _ _).heap.size = w.heap.size + 1 from by simp] at hrow hbel ⊢; have q1 := hrow.cell hv; have q2 := hrow.frozen v; have HS := hide (ds_start (v := v) hrow hbel); simp only [ints] at q1; clear hrow hbel x1 x2 y1)
    have H1 := hide (bi_start (n := n) (E := E) (fwd := fwd) hv)
    generalize (w1.setCell ⟨w.heap.size + 1, v, none⟩ (.int .i64 0)).alloc (.cells #[.int .i64 (v : Int)] 3) = w2 at HS ⊢
    clear q1 q2
    go_loopg [9, 10] (2 * p + 1) (fun g s9 s10 wr => ∃ (dd M L lc : Nat) (la : Option Addr) (Ly : List Nat) (r : Nat → Int), s9 = .slice la L lc ∧ s10 = .int .i64 dd ∧ L = Ly.length ∧ LI w wr n p v dd M g E fwd Ly r (.slice la L lc))
    case atStart => exact ⟨0, p, 1, 1, _, [v], _, rfl, rfl, rfl, H1.out, by simp, by omega, HS.out⟩
    case round =>
      obtain ⟨dd, M, L, lc, la, Ly, r, rfl, rfl, hL, hLI⟩ := hrel
      clear HS H1
      obtain ⟨hBI, hg, hdg, hDS⟩ := hLI
      by_cases hL0 : L = 0
      · have hLn : Ly = [] := List.eq_nil_of_length_eq_zero (by omega)
        subst hLn
        have e1 : decide (0 < L) = false := by simp; omega
        have HQ : Hid (IsDist n p E fwd v r ∧ DS w wr (w.heap.size + 1) p r (.slice la L lc) (.slice none 0 0) [] []) := ⟨hBI.done HE.out, hDS⟩
        clear hBI hg hdg hDS hL hL0
        go_wp2
        go_ret
        exact ⟨r, rfl, HQ.out.2.row, HQ.out.1, HQ.out.2.bel⟩
      · have e1 : 0 < L := by omega
        have hLn : Ly ≠ [] := by rintro rfl; simp at hL; omega
        rw [if_neg hLn] at hg
        have HI : Hid (BI n p E fwd v M dd Ly 0 [] r ∧ DS w wr (w.heap.size + 1) p r (.slice la L lc) (.slice none 0 0) Ly [] ∧ L = Ly.length) := ⟨hBI, hDS, hL⟩
        have hwd : IntKind.i64.wrap ((dd : Int) + 1) = (dd : Int) + 1 := by rw [IntKind.wrap_i64]; omega
        have HG : Hid (gk = 2 * M + 1 ∧ dd + gk ≤ 2 * p + 1) := ⟨hg, hdg⟩
        clear hBI hg hdg hDS hL hL0 hLn
        go_wp2
        go_loopg [9, 11, 12] (L + outN r dd p) (fun g2 s9 s11 s12 wr => ∃ (i L N lc nc : Nat) (la na : Option Addr) (Ly Nx : List Nat) (r : Nat → Int), s9 = .slice la L lc ∧ s11 = .slice na N nc ∧ s12 = .int .i64 i ∧ L = Ly.length ∧ N = Nx.length ∧ LJ w wr n p v dd M g2 i E fwd Ly Nx r (.slice la L lc) (.slice na N nc))
        case atStart => exact ⟨0, L, 0, lc, 0, la, none, Ly, [], r, rfl, rfl, rfl, HI.out.2.2, rfl, HI.out.1, by omega, by rw [← HI.out.2.2]; omega, HI.out.2.1⟩
        case round =>
          clear HI e1
          obtain ⟨i, L, N, lc, nc, la, na, Ly, Nx, r, rfl, rfl, rfl, hL, hN, hLJ⟩ := hrel
          obtain ⟨hBI, hi, hg2, hDS⟩ := hLJ
          have hlL := hBI.b.lenL
          have hlN := hBI.b.lenN
          have htop := hBI.b.top
          have hL2 : L ≤ 1025 := by omega
          have hN2 : N ≤ 512 := by omega
          have hwi : IntKind.i64.wrap ((i : Int) + 1) = (i : Int) + 1 := by rw [IntKind.wrap_i64]; omega
          clear hlL hlN htop
          by_cases hiL : i < L
          · obtain ⟨y, hy⟩ : ∃ y, Ly[i]? = some y := ⟨_, List.getElem?_eq_getElem (by omega)⟩
            have hyp : y < p := hBI.b.ly y (List.mem_of_getElem? hy)
            obtain ⟨a', c', ea, _, hcl⟩ := owns_form hDS.ly
            obtain ⟨gl, rfl, _, _, z1⟩ := hcl i _ (vals_get hy)
            simp at ea
            obtain ⟨rfl, -, rfl⟩ := ea
            have z2 := hDS.row.cell hyp
            simp only [ints] at z2
            have ii : (i : Int) < (L : Int) := by omega
            have ii0 : (0 : Int) ≤ (i : Int) := by omega
            have yi : (y : Int) < (p : Int) := by omega
            have yi0 : (0 : Int) ≤ (y : Int) := by omega
            clear hcl
            by_cases hry : r y = (dd : Int)
            · have hne : (r y != (dd : Int)) = false := by simpa using hry
              obtain ⟨ay, cy, z3, z4⟩ := (HR.out.below hDS.bel).rows y hyp
              rw [HGA.out] at z3
              obtain ⟨m, hm⟩ : ∃ m, (adjF E fwd y).length = m := ⟨_, rfl⟩
              rw [hm] at z3
              have HM : Hid ((adjF E fwd y).length = m) := hm
              have hm2 : m ≤ 1024 := by have := adjA_len E (4 + 2 * y + if fwd then 0 else 1); rw [← hm]; exact Nat.le_trans this hEl
              obtain ⟨K, hKK⟩ : ∃ K, K = gk + i := ⟨_, rfl⟩
              have HKK : Hid (K = gk + i) := hKK
              clear hKK
              have HZ : Hid (∀ (j x : Nat), (adjF E fwd y)[j]? = some x → ∃ g, ay = some ⟨g, 0, none⟩ ∧ w.cell? ⟨g, j, none⟩ = some (.int .i64 (x : Int))) := by
                obtain ⟨ay', cy', z3', z4'⟩ := HR.out.rows y hyp
                have := (hDS.bel.cell (p := ⟨ga, y, none⟩) (World.block_lt_of_cell? w _ (HGA.out ▸ z3'))).trans (HGA.out ▸ z3')
                rw [z3] at this
                simp at this
                obtain ⟨rfl, -, -⟩ := this
                exact z4'
              have HI : Hid (BJ n p E fwd (adjF E fwd) v M dd Ly i y 0 Nx r ∧ DS w wr (w.heap.size + 1) p r (.slice (some ⟨gl, 0, none⟩) L lc) (.slice na N nc) Ly Nx) := ⟨hBI.enter hy hry, hDS⟩
              have HL : Hid (L = Ly.length ∧ N = Nx.length) := ⟨hL, hN⟩
              have HG2 : Hid (gk = (Ly.length - i) + outN r dd p) := hg2
              clear hBI hg2 hDS hL hN hi hry z4 hm
              go_wp2
              go_loopg [9, 11, 64] m (fun g3 s9 s11 s64 wr => ∃ (j L N lc nc : Nat) (la na : Option Addr) (Ly Nx : List Nat) (r : Nat → Int), s9 = .slice la L lc ∧ s11 = .slice na N nc ∧ s64 = .int .i64 j ∧ L = Ly.length ∧ N = Nx.length ∧ LK w wr n p v dd M g3 i y j K E fwd Ly Nx r (.slice la L lc) (.slice na N nc))
              case atStart => exact ⟨0, L, N, lc, nc, _, na, Ly, Nx, r, rfl, rfl, rfl, HL.out.1, HL.out.2, HI.out.1, by omega, by rw [HM.out]; omega, by have := HG2.out; have := HL.out.1; have := HKK.out; omega, HI.out.2⟩
              case round =>
                clear HI HL z1 z2 z3 ii hL2 hN2
                obtain ⟨j, L, N, lc, nc, la, na, Ly, Nx, r, rfl, rfl, rfl, hL, hN, hLK⟩ := hrel
                obtain ⟨hBJ, hj, hg3, hK, hDS⟩ := hLK
                have hlL := hBJ.b.lenL
                have hlN := hBJ.b.lenN
                have htop := hBJ.b.top
                have hL2 : L ≤ 1025 := by omega
                have hN2 : N ≤ 512 := by omega
                clear hlL hlN htop
                rw [HM.out] at hj hg3
                by_cases hjm : j < m
                · obtain ⟨x, hx⟩ : ∃ x, (adjF E fwd y)[j]? = some x := ⟨_, List.getElem?_eq_getElem (by have := HM.out; omega)⟩
                  obtain ⟨gx, rfl, z5⟩ := HZ.out j x hx
                  have z6 : wr.cell? ⟨gx, j, none⟩ = some (.int .i64 (x : Int)) := (hDS.bel.cell (p := ⟨gx, j, none⟩) (World.block_lt_of_cell? w _ z5)).trans z5
                  have hxp : x < p := by
                    have := HA.out.lt _ ((HA.out.mem y hyp x).1 (List.mem_of_getElem? hx))
                    cases fwd <;> simp [edg] at this <;> omega
                  have z7 := hDS.row.cell hxp
                  have z8 := hDS.row.frozen x
                  simp only [ints] at z7
                  have z9 := (HR.out.below hDS.bel).nodes
                  have hbd := hBJ.b.bnd x hxp
                  have xi : (x : Int) < (p : Int) := by omega
                  have xi0 : (0 : Int) ≤ (x : Int) := by omega
                  have jj : (j : Int) < (m : Int) := by omega
                  have jj0 : (0 : Int) ≤ (j : Int) := by omega
                  have hwj : IntKind.i64.wrap ((j : Int) + 1) = (j : Int) + 1 := by rw [IntKind.wrap_i64]; omega
                  have HX : Hid ((adjF E fwd y)[j]? = some x) := hx
                  have HI : Hid (BJ n p E fwd (adjF E fwd) v M dd Ly i y j Nx r ∧ DS w wr (w.heap.size + 1) p r (.slice la L lc) (.slice na N nc) Ly Nx) := ⟨hBJ, hDS⟩
                  have HL : Hid (L = Ly.length ∧ N = Nx.length) := ⟨hL, hN⟩
                  have HK : Hid (gk = m - j ∧ Ly.length + outN r dd p ≤ K) := ⟨hg3, hK⟩
                  clear hBJ hDS hL hN hj hg3 hK z5 hx hjm
                  go_upto_if 70 with fail
                  go_cut [16, 64] from 64 to 115 (fun s16 s64 wx => Value.int .i64 (ent fwd y x : Int) = s16 ∧ Value.int .i64 (j : Int) = s64 ∧ wr = wx)
                  case first =>
                    cases fwd with
                    | true =>
                      go_wp2
                      go_meet
                      case rel => exact ⟨rfl, rfl, rfl⟩
                    | false =>
                      go_wp2
                      go_meet
                      case rel => exact ⟨rfl, rfl, rfl⟩
                  case rest =>
                    obtain ⟨rfl, rfl, rfl⟩ := hcut
                    have hce := cost_ent n fwd y x
                    obtain ⟨en, hen⟩ : ∃ en, ent fwd y x = en := ⟨_, rfl⟩
                    rw [hen] at hce ⊢
                    clear hen
                    by_cases hn : en < n
                    · have e1 : decide (n ≤ en) = false := by simp; omega
                      rw [if_pos hn] at hce
                      have HC : Hid (cost n (edg fwd y x) = 1) := hce
                      clear hce hn
                      by_cases hr0 : r x < 0
                      · have e2 : decide (r x < 0) = true := by simpa using hr0
                        have HD := hide (HI.out.2.set x ((dd : Int) + 1))
                        have HO : Hid (∀ o, ((wr.setCell ⟨w.heap.size + 1, x, none⟩ (.int .i64 ((dd : Int) + 1))).alloc o).ownsRow w.heap.size 3 1 (.slice na N nc) N (vals Nx)) := by
                          intro o
                          have h9 := (HD.out.alloc o).nx
                          rw [← HL.out.2] at h9
                          exact h9
                        obtain ⟨i3, hi3, hz3, hs3, hb3⟩ := info_parts info3
                        have hbw : w.heap.size ≤ wr.heap.size := HI.out.2.bel.size
                        go_wp2_with (at_builtin; refine wpList_append_lies _ rfl (.tmp 111) (.tmp 113) 25 rfl w.heap.size 3 i3 (.int .i64 0) 1 8 Yba.underlying25 hi3 hz3 hs3 hb3 rfl (by decide) (.slice na N nc) N _ rfl (HO.out _) ⟨wr.heap.size, 0, none⟩ 1 1 [.int .i64 (x : Int)] rfl rfl (cell_one_at (by simp)) (by simp [Value.oneCell']) (by omega) (by unfold maxLen; omega) (by omega) (by simp; omega) (wr.heap.size + 1) (by simp) ?_; intro g5 c5 w5 hown1 hgrow1 hat1 hlt1; have HD5 := hide ((HD.out.alloc _).pushN HL.out.2.symm hown1 hgrow1 hat1 (by simp)); clear hown1 hgrow1 hat1)
                        go_roundg (m - (j + 1))
                        case measure => have := HK.out.1; omega
                        case rel =>
                          refine ⟨j + 1, L, N + 1, lc, c5, la, _, Ly, Nx ++ [x], updI r x ((dd : Int) + 1), rfl, rfl, by go_num, HL.out.1, by simp [HL.out.2], HI.out.1.next HA.out HX.out HC.out (by omega), by have := HM.out; omega, by rw [HM.out], ?_, HD5.out⟩
                          rw [outN_out _ _ _ _ (by omega) (by omega)]
                          exact HK.out.2
                      · have e2 : decide (r x < 0) = false := by simpa using hr0
                        go_wp2
                        go_roundg (m - (j + 1))
                        case measure => have := HK.out.1; omega
                        case rel => exact ⟨j + 1, L, N, lc, nc, la, na, Ly, Nx, r, rfl, rfl, by go_num, HL.out.1, HL.out.2, HI.out.1.stay HX.out (by omega) (by rw [HC.out]; omega), by have := HM.out; omega, by rw [HM.out], HK.out.2, HI.out.2⟩
                    · have e1 : decide (n ≤ en) = true := by simp; omega
                      rw [if_neg hn] at hce
                      have HC : Hid (cost n (edg fwd y x) = 0) := hce
                      clear hce hn
                      by_cases hin : 0 ≤ r x ∧ r x ≤ (dd : Int)
                      · have e2 : decide (r x < 0) = false := by simp; omega
                        have e3 : decide ((dd : Int) < r x) = false := by simp; omega
                        go_wp2
                        go_roundg (m - (j + 1))
                        case measure => have := HK.out.1; omega
                        case rel => exact ⟨j + 1, L, N, lc, nc, la, na, Ly, Nx, r, rfl, rfl, by go_num, HL.out.1, HL.out.2, HI.out.1.stay HX.out (by omega) (by rw [HC.out]; omega), by have := HM.out; omega, by rw [HM.out], HK.out.2, HI.out.2⟩
                      · have HD := hide (HI.out.2.set x (dd : Int))
                        have HO : Hid (∀ o, ((wr.setCell ⟨w.heap.size + 1, x, none⟩ (.int .i64 (dd : Int))).alloc o).ownsRow w.heap.size 3 1 (.slice la L lc) L (vals Ly)) := by
                          intro o
                          have h9 := (HD.out.alloc o).ly
                          rw [← HL.out.1] at h9
                          exact h9
                        obtain ⟨i3, hi3, hz3, hs3, hb3⟩ := info_parts info3
                        have hbw : w.heap.size ≤ wr.heap.size := HI.out.2.bel.size
                        have HIN : Hid (¬ (0 ≤ r x ∧ r x ≤ (dd : Int))) := hin
                        have hor : r x < 0 ∨ (¬ r x < 0 ∧ (dd : Int) < r x) := by omega
                        clear hin
                        rcases hor with e2 | ⟨e2, e3⟩
                        · go_wp2_with (at_builtin; refine wpList_append_lies _ rfl (.tmp 96) (.tmp 98) 25 rfl w.heap.size 3 i3 (.int .i64 0) 1 8 Yba.underlying25 hi3 hz3 hs3 hb3 rfl (by decide) (.slice la L lc) L _ rfl (HO.out _) ⟨wr.heap.size, 0, none⟩ 1 1 [.int .i64 (x : Int)] rfl rfl (cell_one_at (by simp)) (by simp [Value.oneCell']) (by omega) (by unfold maxLen; omega) (by omega) (by simp; omega) (wr.heap.size + 1) (by simp) ?_; intro g5 c5 w5 hown1 hgrow1 hat1 hlt1; have HD5 := hide ((HD.out.alloc _).pushL HL.out.1.symm hown1 hgrow1 hat1 (by simp)); clear hown1 hgrow1 hat1)
                          go_roundg (m - (j + 1))
                          case measure => have := HK.out.1; omega
                          case rel =>
                            refine ⟨j + 1, L + 1, N, c5, nc, _, na, Ly ++ [x], Nx, updI r x (dd : Int), rfl, rfl, by go_num, by simp [HL.out.1], HL.out.2, HI.out.1.layer HA.out HX.out HC.out HIN.out, by have := HM.out; omega, by rw [HM.out], ?_, HD5.out⟩
                            have h8 := outN_in r (dd : Int) (dd : Int) x (by omega) HIN.out p hxp
                            have h9 := HK.out.2
                            simp
                            omega
                        · have e2' : decide (r x < 0) = false := by simpa using e2
                          go_wp2_with (at_builtin; refine wpList_append_lies _ rfl (.tmp 96) (.tmp 98) 25 rfl w.heap.size 3 i3 (.int .i64 0) 1 8 Yba.underlying25 hi3 hz3 hs3 hb3 rfl (by decide) (.slice la L lc) L _ rfl (HO.out _) ⟨wr.heap.size, 0, none⟩ 1 1 [.int .i64 (x : Int)] rfl rfl (cell_one_at (by simp)) (by simp [Value.oneCell']) (by omega) (by unfold maxLen; omega) (by omega) (by simp; omega) (wr.heap.size + 1) (by simp) ?_; intro g5 c5 w5 hown1 hgrow1 hat1 hlt1; have HD5 := hide ((HD.out.alloc _).pushL HL.out.1.symm hown1 hgrow1 hat1 (by simp)); clear hown1 hgrow1 hat1)
                          go_roundg (m - (j + 1))
                          case measure => have := HK.out.1; omega
                          case rel =>
                            refine ⟨j + 1, L + 1, N, c5, nc, _, na, Ly ++ [x], Nx, updI r x (dd : Int), rfl, rfl, by go_num, by simp [HL.out.1], HL.out.2, HI.out.1.layer HA.out HX.out HC.out HIN.out, by have := HM.out; omega, by rw [HM.out], ?_, HD5.out⟩
                            have h8 := outN_in r (dd : Int) (dd : Int) x (by omega) HIN.out p hxp
                            have h9 := HK.out.2
                            simp
                            omega
                · have e1 : decide (j < m) = false := by simp; omega
                  have hBI := hBJ.leave HA.out (by have := HM.out; omega)
                  have HI : Hid (BI n p E fwd v M dd Ly (i + 1) Nx r ∧ DS w wr (w.heap.size + 1) p r (.slice la L lc) (.slice na N nc) Ly Nx ∧ i < Ly.length ∧ Ly.length + outN r dd p ≤ K) := ⟨hBI, hDS, hBJ.il, hK⟩
                  have HL : Hid (L = Ly.length ∧ N = Nx.length) := ⟨hL, hN⟩
                  clear hBI hDS hL hN hj hg3 hK hBJ hjm
                  go_wp2
                  go_roundg (L - (i + 1) + outN r dd p)
                  case measure => have := HKK.out; have := HI.out.2.2; have := HL.out.1; omega
                  case rel => exact ⟨i + 1, L, N, lc, nc, la, na, Ly, Nx, r, rfl, rfl, by go_num, HL.out.1, HL.out.2, HI.out.1, by have := HI.out.2.2.1; omega, by rw [← HL.out.1], HI.out.2.1⟩
            · have hne : (r y != (dd : Int)) = true := by simpa using hry
              have HI : Hid (BI n p E fwd v M dd Ly (i + 1) Nx r ∧ DS w wr (w.heap.size + 1) p r (.slice (some ⟨gl, 0, none⟩) L lc) (.slice na N nc) Ly Nx) := ⟨hBI.skip hy hry, hDS⟩
              have HL : Hid (L = Ly.length ∧ N = Nx.length) := ⟨hL, hN⟩
              have HG2 : Hid (gk = (Ly.length - i) + outN r dd p) := hg2
              clear hBI hg2 hDS hL hN hi hry
              go_wp2
              go_roundg (L - (i + 1) + outN r dd p)
              case measure => have := HG2.out; have := HL.out.1; omega
              case rel => exact ⟨i + 1, L, N, lc, nc, _, na, Ly, Nx, r, rfl, rfl, by go_num, HL.out.1, HL.out.2, HI.out.1, by have := HL.out.1; omega, by rw [← HL.out.1], HI.out.2⟩
          · have e : L = i := by omega
            have ii : decide (i < L) = false := by simp; omega
            have HI : Hid (BI n p E fwd v (negN r p) (dd + 1) Nx 0 [] r ∧ DS w wr (w.heap.size + 1) p r (.slice na N nc) (.slice none 0 0) Nx [] ∧ Nx.length + negN r p ≤ M) := by
              refine ⟨?_, hDS.turn, hBI.b.lenN⟩
              have : i = Ly.length := by omega
              rw [this] at hBI
              exact hBI.turn
            have HN : Hid (N = Nx.length) := hN
            clear hBI hg2 hDS hL hN hi e hiL
            go_wp2
            go_roundg (2 * negN r p + (if Nx = [] then 0 else 1))
            case measure =>
              have h1 := HG.out.1
              have h2 := HI.out.2.2
              split
              · omega
              · rename_i hne
                have : Nx.length ≠ 0 := fun e => hne (List.eq_nil_of_length_eq_zero e)
                omega
            case rel =>
              refine ⟨dd + 1, negN r p, N, nc, na, Nx, r, rfl, by go_num, HN.out, HI.out.1, rfl, ?_, HI.out.2.1⟩
              have h1 := HG.out
              have h2 := HI.out.2.2
              split
              · omega
              · rename_i hne
                have : Nx.length ≠ 0 := fun e => hne (List.eq_nil_of_length_eq_zero e)
                omega
end Go.Proofs.Ybulkcgnk
