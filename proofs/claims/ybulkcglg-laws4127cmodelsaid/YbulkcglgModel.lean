
import Derived.Test.YbulkcglgModelInv
namespace Go.Proofs.Ybulkcglg
open Go.RowKit
attribute [local go_sem] Oper.semAt_some

set_option maxHeartbeats 1000000 in
theorem model_any (w : World) (a : Option Addr) (len cap : Nat) (z : Nat → Int) (stop : Int) (hs0 : 0 ≤ stop) (hs1 : stop ≤ 255) (hlen : len ≤ 1024)
    (hel : ∀ j, j < len → ∃ b off, a = some ⟨b, off, none⟩ ∧ w.cell? ⟨b, off + j, none⟩ = some (.int .i8 (z j))) :
    CallsIn Fence.wide 0 Yba.prog 5 #[.slice a len cap, .int .u8 stop] w fun e w' => e = .returned (.bool true) ∧ Below w.heap.size w w' := by
  have e1 : decide ((1024 : Int) < (len : Int)) = false := by simp; omega
  refine callsIn_of_wp_marks Yba.func5 rfl trivial ?_ rfl
  simp only [Yba.ntmps5, List.size_toArray, List.length_cons, List.length_nil, Nat.reduceAdd, Nat.reduceSub, Array.replicate_succ, Array.replicate_zero, List.push_toArray, List.append_toArray, List.nil_append, List.cons_append]
  refine wpIn_wide.2 ?_
  go_wp2
  have hB1 : Below w.heap.size w ((w.alloc (Obj.cells #[Value.slice a len cap] 35)).alloc (Obj.cells #[Value.int IntKind.i64 0] 3)) := ((Below.refl _ _).alloc (Nat.le_refl _) _).alloc (by simp) _
  have x0 : ((w.alloc (Obj.cells #[Value.slice a len cap] 35)).alloc (Obj.cells #[Value.int IntKind.i64 0] 3)).heap[w.heap.size]? = some (.cells #[Value.slice a len cap] 35 (0, 0)) := by
    rw [Below.heap_alloc _ _ _ (by simp)]; exact World.alloc_heap_new _ _
  have x1 : ((w.alloc (Obj.cells #[Value.slice a len cap] 35)).alloc (Obj.cells #[Value.int IntKind.i64 0] 3)).heap[w.heap.size + 1]? = some (.cells #[Value.int IntKind.i64 0] 3 (0, 0)) := by
    have := World.alloc_heap_new (w.alloc (Obj.cells #[Value.slice a len cap] 35)) (Obj.cells #[Value.int IntKind.i64 0] 3)
    rwa [World.size_alloc] at this
  have hsz1 : ((w.alloc (Obj.cells #[Value.slice a len cap] 35)).alloc (Obj.cells #[Value.int IntKind.i64 0] 3)).heap.size = w.heap.size + 2 := by simp
  generalize (w.alloc (Obj.cells #[Value.slice a len cap] 35)).alloc (Obj.cells #[Value.int IntKind.i64 0] 3) = w1 at *
  have HS1 : Hid (w1.heap.size = w.heap.size + 2) := hsz1
  have hsz1' : w.heap.size + 2 ≤ w1.heap.size := by omega
  clear hsz1
  go_loopw [7, 8, 9] (fun wv av i wr => ∃ k : Nat, k ≤ len ∧ i = .int .i64 k ∧ Two (w.heap.size + 2) z k w1 wr wv av) (fun _ _ i _ => len - (intOf i).toNat)
  case atStart => exact ⟨0, by omega, rfl, World.ownsRow_nil _ _ _ _, World.ownsRow_nil _ _ _ _, Below.refl _ _⟩
  case round =>
    obtain ⟨k, hk, rfl, h2⟩ := hrel
    have y0 : wr.cell? ⟨w.heap.size, 0, none⟩ = some (.slice a len cap) := cell_of_one ((h2.below.block _ (by omega)).trans x0)
    have hle := starts_le z k
    have hszr : w.heap.size + 2 ≤ wr.heap.size := Nat.le_trans hsz1' h2.below.size
    by_cases hlt : k < len
    · obtain ⟨b, off, rfl, hz⟩ := hel k hlt
      have hbw := World.block_lt_of_cell? w _ hz
      have hz1 : wr.cell? ⟨b, off + k, none⟩ = some (.int .i8 (z k)) := (h2.below.cell (p := ⟨b, off + k, none⟩) (by show b < _; simp at hbw; omega)).trans ((hB1.cell (p := ⟨b, off + k, none⟩) hbw).trans hz)
      have hzp : ∀ j, j < len → j < k → wr.cell? ⟨b, off + j, none⟩ = some (.int .i8 (z j)) := fun j hj _ => by
        obtain ⟨b', off', e, hz'⟩ := hel j hj
        simp at e
        obtain ⟨rfl, rfl⟩ := e
        exact (h2.below.cell (p := ⟨b, off + j, none⟩) (by show b < _; simp at hbw; omega)).trans ((hB1.cell (p := ⟨b, off + j, none⟩) hbw).trans hz')
      have ki : (k : Int) < (len : Int) := by omega
      have ki0 : (0 : Int) ≤ (k : Int) := by omega
      by_cases hn : isNew z k = true
      · have fin : Hid (∀ nq : Nat, Two (w.heap.size + 2) z k w1 (wr.drewN nq) u7 u8) := fun nq => h2.drewN nq
        clear h2 hel x0 x1
        obtain ⟨i37, hi37, hz37, hs37, hb37⟩ := info_parts Yba.info37
        obtain ⟨i3, hi3, hz3, hs3, hb3⟩ := info_parts Yba.info3
        by_cases hk0 : k = 0
        · have e0 : ((k : Int) == 0) = true := by simp [hk0]
          clear hk0 hzp
          go_wp2
          go_quiet (fail)
          go_wp2_with (first
            | (at_builtin; refine wpList_append_own _ rfl (.tmp 41) (.tmp 46) 35 rfl (w.heap.size + 2) 37 i37 (.int .i8 0) 1 1 Yba.underlying35 hi37 hz37 hs37 hb37 rfl (by decide) _ _ _ rfl ((fin.out nq).want.alloc _) ⟨wr.heap.size, 0, none⟩ 1 1 [.int .i8 (z k)] rfl rfl (cell_one_new _ _ _) (by simp [Value.oneCell']) (by unfold maxLen; omega) (by omega) (by simp; omega) ?_; intro v1 w2 hown1 hgrow1 _; obtain ⟨hat1, hbel1, hsz2⟩ := two_mid (fin.out nq) hszr hgrow1)
            | (at_builtin; refine wpList_append_own _ rfl (.tmp 48) (.tmp 50) 32 rfl (w.heap.size + 2) 3 i3 (.int .i64 0) 1 8 Yba.underlying32 hi3 hz3 hs3 hb3 rfl (by decide) _ _ _ rfl (hat1.alloc _) ⟨w2.heap.size, 0, none⟩ 1 1 [.int .i64 (k : Int)] rfl rfl (cell_one_new _ _ _) (by simp [Value.oneCell']) (by unfold maxLen; omega) (by omega) (by simp; omega) ?_; intro v2 w3 hown2 hgrow2 _; have h2' := two_end hn hown1 hat1 hbel1 hsz2 hown2 hgrow2; clear hown1 hat1 hown2 hgrow2 hgrow1))
          go_roundw
          case rel => exact ⟨k + 1, by omega, by go_num, h2'⟩
          case measure => simp [intOf]; omega
        · obtain ⟨k, rfl⟩ : ∃ j, k = j + 1 := ⟨k - 1, by omega⟩
          have e0 : (((k : Int) + 1) == 0) = false := by simp; omega
          have hne : (z (k + 1) != z k) = true := by simpa [isNew] using hn
          have hzk : wr.cell? ⟨b, off + k, none⟩ = some (.int .i8 (z k)) := hzp k (by omega) (by omega)
          have kj : (k : Int) < (len : Int) := by omega
          have kj0 : (0 : Int) ≤ (k : Int) := by omega
          clear hk0 hzp
          go_wp2
          go_quiet (fail)
          go_wp2_with (first
            | (at_builtin; refine wpList_append_own _ rfl (.tmp 41) (.tmp 46) 35 rfl (w.heap.size + 2) 37 i37 (.int .i8 0) 1 1 Yba.underlying35 hi37 hz37 hs37 hb37 rfl (by decide) _ _ _ rfl ((fin.out nq).want.alloc _) ⟨wr.heap.size, 0, none⟩ 1 1 [.int .i8 (z (k + 1))] rfl rfl (cell_one_new _ _ _) (by simp [Value.oneCell']) (by unfold maxLen; omega) (by omega) (by simp; omega) ?_; intro v1 w2 hown1 hgrow1 _; obtain ⟨hat1, hbel1, hsz2⟩ := two_mid (fin.out nq) hszr hgrow1)
            | (at_builtin; refine wpList_append_own _ rfl (.tmp 48) (.tmp 50) 32 rfl (w.heap.size + 2) 3 i3 (.int .i64 0) 1 8 Yba.underlying32 hi3 hz3 hs3 hb3 rfl (by decide) _ _ _ rfl (hat1.alloc _) ⟨w2.heap.size, 0, none⟩ 1 1 [.int .i64 ((k : Int) + 1)] rfl rfl (cell_one_new _ _ _) (by simp [Value.oneCell']) (by unfold maxLen; omega) (by omega) (by simp; omega) ?_; intro v2 w3 hown2 hgrow2 _; have h2' := two_end hn hown1 hat1 hbel1 hsz2 hown2 hgrow2; clear hown1 hat1 hown2 hgrow2 hgrow1))
          go_roundw
          case rel => exact ⟨k + 1 + 1, by omega, by go_num, h2'⟩
          case measure => simp [intOf]; omega
      · have hn' : isNew z k = false := by simpa using hn
        have hk0 : k ≠ 0 := by rintro rfl; simp [isNew] at hn'
        have fin : Hid (∀ nq : Nat, Two (w.heap.size + 2) z (k + 1) w1 (wr.drewN nq) u7 u8) := fun nq => (h2.drewN nq).old hn'
        clear h2 hel x0 x1
        obtain ⟨k, rfl⟩ : ∃ j, k = j + 1 := ⟨k - 1, by omega⟩
        have e0 : (((k : Int) + 1) == 0) = false := by simp; omega
        have hne : (z (k + 1) != z k) = false := by simpa [isNew] using hn'
        have hzk : wr.cell? ⟨b, off + k, none⟩ = some (.int .i8 (z k)) := hzp k (by omega) (by omega)
        have kj : (k : Int) < (len : Int) := by omega
        have kj0 : (0 : Int) ≤ (k : Int) := by omega
        clear hk0 hzp hn
        go_wp2
        go_quiet (fail)
        go_wp2
        go_roundw
        case rel => exact ⟨k + 1 + 1, by omega, by go_num, fin.out nq⟩
        case measure => simp [intOf]; omega
    · have e : len = k := by omega
      subst e
      obtain ⟨pw, cw, rfl, _, hwc⟩ := own_form h2.want
      obtain ⟨pa, ca, rfl, _, hac⟩ := own_form h2.at_
      obtain ⟨m, hm⟩ : ∃ m, (starts z len).length = m := ⟨_, rfl⟩
      have HM : Hid ((starts z len).length = m) := hm
      rw [hm] at hle ⊢
      clear hm
      have y1 : ∀ o, (wr.alloc o).cell? ⟨w.heap.size, 0, none⟩ = some (.slice a len cap) := fun o => cell_alloc_some y0
      have y2 : ∀ o o', ((wr.alloc o).alloc o').cell? ⟨w.heap.size, 0, none⟩ = some (.slice a len cap) := fun o o' => cell_alloc_some (cell_alloc_some y0)
      have HEL : Hid (∀ j, j < len → ∃ b off, a = some ⟨b, off, none⟩ ∧ w.cell? ⟨b, off + j, none⟩ = some (.int .i8 (z j))) := hel
      have HW : Hid (∀ j u, ((starts z len).map fun i => Value.int .i8 (z i))[j]? = some u → ∃ g, pw = some ⟨g, 0, none⟩ ∧ w.heap.size + 2 ≤ g ∧ g < wr.heap.size ∧ wr.cell? ⟨g, j, none⟩ = some u) := hwc
      have HA : Hid (∀ j u, ((starts z len).map fun i => Value.int .i64 (Int.ofNat i))[j]? = some u → ∃ g, pa = some ⟨g, 0, none⟩ ∧ w.heap.size + 2 ≤ g ∧ g < wr.heap.size ∧ wr.cell? ⟨g, j, none⟩ = some u) := hac
      have H2 : Hid (Two (w.heap.size + 2) z len w1 wr (Value.slice pw (starts z len).length cw) (Value.slice pa (starts z len).length ca)) := h2
      have X1 : Hid (w1.heap[w.heap.size + 1]? = some (Obj.cells #[Value.int IntKind.i64 0] 3)) := x1
      have X0 : Hid (w1.heap[w.heap.size]? = some (Obj.cells #[Value.slice a len cap] 35)) := x0
      clear hel hwc hac h2 x0 x1
      obtain ⟨K, hK⟩ : ∃ K : Nat, stop % ((len : Int) + 2) = (K : Int) := ⟨(stop % ((len : Int) + 2)).toNat, by have := Int.emod_nonneg stop (b := (len : Int) + 2) (by omega); omega⟩
      by_cases hK0 : K = 0
      · subst hK0
        go_wp2
        have hx1 : wr.heap[w.heap.size + 1]? = some (Obj.cells #[Value.int IntKind.i64 0] 3) := (H2.out.below.block _ (by omega)).trans X1.out
        have hx0 : wr.heap[w.heap.size]? = some (Obj.cells #[Value.slice a len cap] 35) := (H2.out.below.block _ (by omega)).trans X0.out
        refine (wpIn_wide (n := 0)).1 ?_
        refine range_enter (gf := 13) (lb := #[.pointer (some ⟨wr.heap.size + 3, 0, none⟩)]) rfl (enters_of Yba.func13 (by kernel_rfl) rfl) ?_
        intro fn rec hrec
        obtain ⟨hM, hBs, hsz⟩ := MI.start (n0 := w.heap.size) (wr := wr) (z := z) (m : Int) false (.func (.func 10) #[] #[.pointer (some ⟨w.heap.size, 0, none⟩), .pointer (some ⟨w.heap.size + 1, 0, none⟩)]) (rec .ready none) (by omega) hx1
        have hs4 : ((((wr.alloc (Obj.cells #[Value.int IntKind.i64 (m : Int)] 3)).alloc (Obj.cells #[Value.bool false] 4)).alloc (Obj.cells #[Value.slice none 0 0] 35)).alloc (Obj.cells #[Value.func (Fn.func 10) #[] #[Value.pointer (some ⟨w.heap.size, 0, none⟩), Value.pointer (some ⟨w.heap.size + 1, 0, none⟩)]] 39)).heap.size = wr.heap.size + 4 := by simp
        rw [hs4]
        generalize ((((((wr.alloc (Obj.cells #[Value.int IntKind.i64 (m : Int)] 3)).alloc (Obj.cells #[Value.bool false] 4)).alloc (Obj.cells #[Value.slice none 0 0] 35)).alloc (Obj.cells #[Value.func (Fn.func 10) #[] #[Value.pointer (some ⟨w.heap.size, 0, none⟩), Value.pointer (some ⟨w.heap.size + 1, 0, none⟩)]] 39)).alloc (.deferred (some []))).alloc (.loop (rec .ready none))) = W1 at *
        have hold : ∀ i, i < w.heap.size → wr.heap[i]? = w.heap[i]? := fun i hi => (H2.out.below.block i (by omega)).trans (hB1.block i hi)
        have hN : w.heap.size + 1 < wr.heap.size := by omega
        have hel := HEL.out
        clear HEL HA y1 y2 y0
        refine (compact_in (wr.heap.size + 5) (wr.heap.size + 3) w.heap.size (w.heap.size + 1) len cap a z (fun p k V => MI w.heap.size wr.heap.size wr z (m : Int) false (rec .ready none) p k V) (fun _ _ => False) hlen W1
          (fun p k V h => h.facts hN hx0 hold hel) (cell_of_one hBs) (fun p k V V' h ha => h.apart hN (by rw [hsz] at ha; exact ha)) (fun _ _ _ h _ => h) (fun k V _ h => h.pull hN _) (fun k V _ hn h => h.old_ hn) ?_ hM).mono ?_
        · intro k V hk hnew hVs hV
          rw [hsz] at hVs ⊢
          refine round_at hrec hV.l0 rfl ?_
          clear hrec
          gi_wp2
          refine ⟨hV.l0, ?_⟩
          have hV2 := hV.putLoop hN (rec .busy none)
          have hVs2 : wr.heap.size + 11 ≤ (V.putObj (wr.heap.size + 5) (.loop (rec .busy none))).heap.size := by rw [World.putObj_size]; exact hVs
          have hKv0 : Keep (wr.heap.size + 6) (wr.heap.size + 11) V (V.putObj (wr.heap.size + 5) (.loop (rec .busy none))) := fun i h1 h2 => World.putObj_heap_other (by omega)
          generalize V.putObj (wr.heap.size + 5) (.loop (rec .busy none)) = V2 at *
          have hKv : Keep (wr.heap.size + 6) (wr.heap.size + 11) V V2 := hKv0
          clear hKv0 hV
          obtain ⟨gv, hg1, hg2⟩ := hV2.got
          have hle2 := starts_le z k
          have cg : V2.cell? ⟨wr.heap.size + 1 + 1, 0, none⟩ = some gv := cell_of_one hg1
          obtain ⟨i37, hi37, hz37, hs37, hb37⟩ := info_parts Yba.info37
          have HV2 : Hid (MI w.heap.size wr.heap.size wr z (m : Int) false (rec .busy none) ((k + 1 : Nat) : Int) k V2) := hV2
          have HG : Hid (V2.heap[wr.heap.size + 2]? = some (.cells #[gv] 35 (0, 0)) ∧ V2.ownsRow (wr.heap.size + 11) 37 1 gv (starts z k).length ((starts z k).map fun i => .int .i8 (z i))) := ⟨hg1, hg2⟩
          have HNW : Hid (isNew z k = true) := hnew
          clear hV2 hg1 hg2 hnew hM hBs hx0 hx1 hold hel
          gi_wp2_with (gi_at_builtin; refine wpListIn_append_own _ rfl _ _ 35 rfl (wr.heap.size + 11) 37 i37 (.int .i8 0) 1 1 Yba.underlying35 hi37 hz37 hs37 hb37 rfl (by decide) _ _ _ rfl (HG.out.2.alloc _) ⟨V2.heap.size, 0, none⟩ 1 1 [.int .i8 (z k)] rfl rfl (cell_one_new _ _ _) (by simp [Value.oneCell']) (by unfold maxLen; omega) (by omega) (by simp; omega) ?_; intro v1 w2 hown1 hgrow1 _; obtain ⟨hM3, hK3, hb3⟩ := HV2.out.append hN hVs2 HNW.out HG.out.1 HG.out.2 hown1 hgrow1; obtain ⟨p1, c1, rfl, _, _⟩ := own_form hown1; have cg3 : w2.cell? ⟨wr.heap.size + 1 + 1, 0, none⟩ = some gv := cell_of_one hb3; have fg3 : w2.frozen? ⟨wr.heap.size + 1 + 1, 0, none⟩ = false := free_of_one hb3; have cb3 : (w2.setCell ⟨wr.heap.size + 1 + 1, 0, none⟩ (.slice p1 ((starts z k).length + 1) c1)).cell? ⟨wr.heap.size + 1, 0, none⟩ = some (.bool false) := cell_of_one hM3.brk; have HM3 : Hid (MI w.heap.size wr.heap.size wr z (m : Int) false (rec .busy none) ((k + 1 : Nat) : Int) (k + 1) (w2.setCell ⟨wr.heap.size + 2, 0, none⟩ (.slice p1 ((starts z k).length + 1) c1))) := hM3; clear hM3 hb3 hown1 hgrow1)
          exact ⟨HM3.out.l0, .inl ⟨rfl, HM3.out.putLoop hN _, fun i h1 h2 => (World.putObj_heap_other (by omega)).trans ((hK3 i h1 (by omega)).trans (hKv i h1 (by omega)))⟩⟩
        · rintro e W2 ⟨⟨v, rfl⟩, (hMe | ⟨k, _, _, hf⟩)⟩
          · refine range_done hrec hMe.l0 ?_
            have hM3 := hMe.putLoop hN (rec .exhausted none)
            generalize W2.putObj (wr.heap.size + 4 + 1) (.loop (rec .exhausted none)) = W3 at *
            clear hMe hrec hM hBs
            obtain ⟨gv, hg1, hg2⟩ := hM3.got
            obtain ⟨pg, cgp, rfl, _, hgc⟩ := own_form hg2
            have hm := HM.out
            rw [hm] at hg1
            have q1 : W3.cell? ⟨wr.heap.size + 1 + 1, 0, none⟩ = some (.slice pg m cgp) := cell_of_one hg1
            have q2 : W3.cell? ⟨wr.heap.size, 0, none⟩ = some (.int .i64 (m : Int)) := cell_of_one hM3.lim
            have q3 : W3.cell? ⟨w.heap.size + 1, 0, none⟩ = some (.int .i64 (len : Int)) := cell_of_one hM3.pulled
            have HG : Hid (∀ j u, ((starts z len).map fun i => Value.int .i8 (z i))[j]? = some u → ∃ g, pg = some ⟨g, 0, none⟩ ∧ wr.heap.size + 11 ≤ g ∧ g < W3.heap.size ∧ W3.cell? ⟨g, j, none⟩ = some u) := hgc
            have HM3 : Hid (MI w.heap.size wr.heap.size wr z (m : Int) false (rec .exhausted none) (len : Int) len W3) := hM3
            clear hgc hM3 hg1 hg2 hm
            go_wp2
            go_loopw [16] (fun i wx => ∃ k : Nat, k ≤ m ∧ i = .int .i64 k ∧ ∃ n, wx = W3.drewN n) (fun i _ => m - (intOf i).toNat)
            case atStart => exact ⟨0, by omega, rfl, 0, rfl⟩
            case round =>
              obtain ⟨k, hk, rfl, nx, rfl⟩ := hrel
              by_cases hkm : k < m
              · obtain ⟨sk, hsk⟩ : ∃ sk, (starts z len)[k]? = some sk := ⟨_, List.getElem?_eq_getElem (by have := HM.out; omega)⟩
                obtain ⟨g, rfl, hg1, hg2, hg3⟩ := HG.out k (.int .i8 (z sk)) (by simp [hsk])
                obtain ⟨g', rfl, hg1', hg2', hg3'⟩ := HW.out k (.int .i8 (z sk)) (by simp [hsk])
                have hg4 : W3.cell? ⟨g', k, none⟩ = some (.int .i8 (z sk)) := (World.cell?_of_block (HM3.out.old g' hg2' (by omega))).trans hg3'
                have ki : (k : Int) < (m : Int) := by omega
                have ki0 : (0 : Int) ≤ (k : Int) := by omega
                clear hsk hg1 hg2 hg1' hg2' hg3'
                go_wp2
                go_quiet (fail)
                go_wp2
                go_roundw
                case rel => exact ⟨k + 1, by omega, by go_num, _, rfl⟩
                case measure => simp [intOf]; omega
              · have e : k = m := by omega
                subst e
                obtain ⟨hT, hB⟩ := HM3.out.shut hN (hB1.trans (H2.out.below.mono (by omega))) nx
                go_wp2
                exact ⟨by simp, .inl ⟨_, _, rfl, hT, _, results_tmp rfl _ _ _, rfl, hB⟩⟩
          · exact hf.elim
      · by_cases hKm : m < K
        · have d1 : decide ((K : Int) ≤ (m : Int)) = false := by simp; omega
          have d0 : decide ((0 : Int) < (K : Int)) = true := by simp; omega
          go_wp2
          have hx1 : wr.heap[w.heap.size + 1]? = some (Obj.cells #[Value.int IntKind.i64 0] 3) := (H2.out.below.block _ (by omega)).trans X1.out
          have hx0 : wr.heap[w.heap.size]? = some (Obj.cells #[Value.slice a len cap] 35) := (H2.out.below.block _ (by omega)).trans X0.out
          refine (wpIn_wide (n := 0)).1 ?_
          refine range_enter (gf := 13) (lb := #[.pointer (some ⟨wr.heap.size + 3, 0, none⟩)]) rfl (enters_of Yba.func13 (by kernel_rfl) rfl) ?_
          intro fn rec hrec
          obtain ⟨hM, hBs, hsz⟩ := MI.start (n0 := w.heap.size) (wr := wr) (z := z) (m : Int) false (.func (.func 10) #[] #[.pointer (some ⟨w.heap.size, 0, none⟩), .pointer (some ⟨w.heap.size + 1, 0, none⟩)]) (rec .ready none) (by omega) hx1
          have hs4 : ((((wr.alloc (Obj.cells #[Value.int IntKind.i64 (m : Int)] 3)).alloc (Obj.cells #[Value.bool false] 4)).alloc (Obj.cells #[Value.slice none 0 0] 35)).alloc (Obj.cells #[Value.func (Fn.func 10) #[] #[Value.pointer (some ⟨w.heap.size, 0, none⟩), Value.pointer (some ⟨w.heap.size + 1, 0, none⟩)]] 39)).heap.size = wr.heap.size + 4 := by simp
          rw [hs4]
          generalize ((((((wr.alloc (Obj.cells #[Value.int IntKind.i64 (m : Int)] 3)).alloc (Obj.cells #[Value.bool false] 4)).alloc (Obj.cells #[Value.slice none 0 0] 35)).alloc (Obj.cells #[Value.func (Fn.func 10) #[] #[Value.pointer (some ⟨w.heap.size, 0, none⟩), Value.pointer (some ⟨w.heap.size + 1, 0, none⟩)]] 39)).alloc (.deferred (some []))).alloc (.loop (rec .ready none))) = W1 at *
          have hold : ∀ i, i < w.heap.size → wr.heap[i]? = w.heap[i]? := fun i hi => (H2.out.below.block i (by omega)).trans (hB1.block i hi)
          have hN : w.heap.size + 1 < wr.heap.size := by omega
          have hel := HEL.out
          clear HEL HA y1 y2 y0
          refine (compact_in (wr.heap.size + 5) (wr.heap.size + 3) w.heap.size (w.heap.size + 1) len cap a z (fun p k V => MI w.heap.size wr.heap.size wr z (m : Int) false (rec .ready none) p k V) (fun _ _ => False) hlen W1
            (fun p k V h => h.facts hN hx0 hold hel) (cell_of_one hBs) (fun p k V V' h ha => h.apart hN (by rw [hsz] at ha; exact ha)) (fun _ _ _ h _ => h) (fun k V _ h => h.pull hN _) (fun k V _ hn h => h.old_ hn) ?_ hM).mono ?_
          · intro k V hk hnew hVs hV
            rw [hsz] at hVs ⊢
            refine round_at hrec hV.l0 rfl ?_
            clear hrec
            gi_wp2
            refine ⟨hV.l0, ?_⟩
            have hV2 := hV.putLoop hN (rec .busy none)
            have hVs2 : wr.heap.size + 11 ≤ (V.putObj (wr.heap.size + 5) (.loop (rec .busy none))).heap.size := by rw [World.putObj_size]; exact hVs
            have hKv0 : Keep (wr.heap.size + 6) (wr.heap.size + 11) V (V.putObj (wr.heap.size + 5) (.loop (rec .busy none))) := fun i h1 h2 => World.putObj_heap_other (by omega)
            generalize V.putObj (wr.heap.size + 5) (.loop (rec .busy none)) = V2 at *
            have hKv : Keep (wr.heap.size + 6) (wr.heap.size + 11) V V2 := hKv0
            clear hKv0 hV
            obtain ⟨gv, hg1, hg2⟩ := hV2.got
            have hle2 := starts_le z k
            have cg : V2.cell? ⟨wr.heap.size + 1 + 1, 0, none⟩ = some gv := cell_of_one hg1
            obtain ⟨i37, hi37, hz37, hs37, hb37⟩ := info_parts Yba.info37
            have HV2 : Hid (MI w.heap.size wr.heap.size wr z (m : Int) false (rec .busy none) ((k + 1 : Nat) : Int) k V2) := hV2
            have HG : Hid (V2.heap[wr.heap.size + 2]? = some (.cells #[gv] 35 (0, 0)) ∧ V2.ownsRow (wr.heap.size + 11) 37 1 gv (starts z k).length ((starts z k).map fun i => .int .i8 (z i))) := ⟨hg1, hg2⟩
            have HNW : Hid (isNew z k = true) := hnew
            clear hV2 hg1 hg2 hnew hM hBs hx0 hx1 hold hel
            gi_wp2_with (gi_at_builtin; refine wpListIn_append_own _ rfl _ _ 35 rfl (wr.heap.size + 11) 37 i37 (.int .i8 0) 1 1 Yba.underlying35 hi37 hz37 hs37 hb37 rfl (by decide) _ _ _ rfl (HG.out.2.alloc _) ⟨V2.heap.size, 0, none⟩ 1 1 [.int .i8 (z k)] rfl rfl (cell_one_new _ _ _) (by simp [Value.oneCell']) (by unfold maxLen; omega) (by omega) (by simp; omega) ?_; intro v1 w2 hown1 hgrow1 _; obtain ⟨hM3, hK3, hb3⟩ := HV2.out.append hN hVs2 HNW.out HG.out.1 HG.out.2 hown1 hgrow1; obtain ⟨p1, c1, rfl, _, _⟩ := own_form hown1; have cg3 : w2.cell? ⟨wr.heap.size + 1 + 1, 0, none⟩ = some gv := cell_of_one hb3; have fg3 : w2.frozen? ⟨wr.heap.size + 1 + 1, 0, none⟩ = false := free_of_one hb3; have cb3 : (w2.setCell ⟨wr.heap.size + 1 + 1, 0, none⟩ (.slice p1 ((starts z k).length + 1) c1)).cell? ⟨wr.heap.size + 1, 0, none⟩ = some (.bool false) := cell_of_one hM3.brk; have HM3 : Hid (MI w.heap.size wr.heap.size wr z (m : Int) false (rec .busy none) ((k + 1 : Nat) : Int) (k + 1) (w2.setCell ⟨wr.heap.size + 2, 0, none⟩ (.slice p1 ((starts z k).length + 1) c1))) := hM3; clear hM3 hb3 hown1 hgrow1)
            exact ⟨HM3.out.l0, .inl ⟨rfl, HM3.out.putLoop hN _, fun i h1 h2 => (World.putObj_heap_other (by omega)).trans ((hK3 i h1 (by omega)).trans (hKv i h1 (by omega)))⟩⟩
          · rintro e W2 ⟨⟨v, rfl⟩, (hMe | ⟨k, _, _, hf⟩)⟩
            · refine range_done hrec hMe.l0 ?_
              have hM3 := hMe.putLoop hN (rec .exhausted none)
              generalize W2.putObj (wr.heap.size + 4 + 1) (.loop (rec .exhausted none)) = W3 at *
              clear hMe hrec hM hBs
              obtain ⟨gv, hg1, hg2⟩ := hM3.got
              obtain ⟨pg, cgp, rfl, _, hgc⟩ := own_form hg2
              have hm := HM.out
              rw [hm] at hg1
              have q1 : W3.cell? ⟨wr.heap.size + 1 + 1, 0, none⟩ = some (.slice pg m cgp) := cell_of_one hg1
              have q2 : W3.cell? ⟨wr.heap.size, 0, none⟩ = some (.int .i64 (m : Int)) := cell_of_one hM3.lim
              have q3 : W3.cell? ⟨w.heap.size + 1, 0, none⟩ = some (.int .i64 (len : Int)) := cell_of_one hM3.pulled
              have HG : Hid (∀ j u, ((starts z len).map fun i => Value.int .i8 (z i))[j]? = some u → ∃ g, pg = some ⟨g, 0, none⟩ ∧ wr.heap.size + 11 ≤ g ∧ g < W3.heap.size ∧ W3.cell? ⟨g, j, none⟩ = some u) := hgc
              have HM3 : Hid (MI w.heap.size wr.heap.size wr z (m : Int) false (rec .exhausted none) (len : Int) len W3) := hM3
              clear hgc hM3 hg1 hg2 hm
              go_wp2
              go_loopw [16] (fun i wx => ∃ k : Nat, k ≤ m ∧ i = .int .i64 k ∧ ∃ n, wx = W3.drewN n) (fun i _ => m - (intOf i).toNat)
              case atStart => exact ⟨0, by omega, rfl, 0, rfl⟩
              case round =>
                obtain ⟨k, hk, rfl, nx, rfl⟩ := hrel
                by_cases hkm : k < m
                · obtain ⟨sk, hsk⟩ : ∃ sk, (starts z len)[k]? = some sk := ⟨_, List.getElem?_eq_getElem (by have := HM.out; omega)⟩
                  obtain ⟨g, rfl, hg1, hg2, hg3⟩ := HG.out k (.int .i8 (z sk)) (by simp [hsk])
                  obtain ⟨g', rfl, hg1', hg2', hg3'⟩ := HW.out k (.int .i8 (z sk)) (by simp [hsk])
                  have hg4 : W3.cell? ⟨g', k, none⟩ = some (.int .i8 (z sk)) := (World.cell?_of_block (HM3.out.old g' hg2' (by omega))).trans hg3'
                  have ki : (k : Int) < (m : Int) := by omega
                  have ki0 : (0 : Int) ≤ (k : Int) := by omega
                  clear hsk hg1 hg2 hg1' hg2' hg3'
                  go_wp2
                  go_quiet (fail)
                  go_wp2
                  go_roundw
                  case rel => exact ⟨k + 1, by omega, by go_num, _, rfl⟩
                  case measure => simp [intOf]; omega
                · have e : k = m := by omega
                  subst e
                  obtain ⟨hT, hB⟩ := HM3.out.shut hN (hB1.trans (H2.out.below.mono (by omega))) nx
                  go_wp2
                  exact ⟨by simp, .inl ⟨_, _, rfl, hT, _, results_tmp rfl _ _ _, rfl, hB⟩⟩
            · exact hf.elim
        · obtain ⟨q, rfl⟩ : ∃ q, K = q + 1 := ⟨K - 1, by omega⟩
          have hK' : stop % ((len : Int) + 2) = (q : Int) + 1 := by omega
          have d1 : decide ((q : Int) + 1 ≤ (m : Int)) = true := by simp; omega
          have d0 : decide ((0 : Int) < (q : Int) + 1) = true := decide_eq_true (by omega)
          obtain ⟨sq, hsq⟩ : ∃ sk, (starts z len)[q]? = some sk := ⟨_, List.getElem?_eq_getElem (by have := HM.out; omega)⟩
          have hlq : sq < len := by
            have := List.mem_of_getElem? hsq
            simp [starts] at this
            exact this.1
          obtain ⟨ga, rfl, hga1, hga2, hga3⟩ := HA.out q (.int .i64 (sq : Int)) (by simp [hsq])
          have yq : ∀ o o', ((wr.alloc o).alloc o').cell? ⟨ga, q, none⟩ = some (.int .i64 (sq : Int)) := fun o o' => cell_alloc_some (cell_alloc_some hga3)
          have HSQ : Hid ((starts z len)[q]? = some sq) := hsq
          have qm : (q : Int) < (m : Int) := by omega
          clear hK hsq hga3
          go_wp2
          have hx1 : wr.heap[w.heap.size + 1]? = some (Obj.cells #[Value.int IntKind.i64 0] 3) := (H2.out.below.block _ (by omega)).trans X1.out
          have hx0 : wr.heap[w.heap.size]? = some (Obj.cells #[Value.slice a len cap] 35) := (H2.out.below.block _ (by omega)).trans X0.out
          refine (wpIn_wide (n := 0)).1 ?_
          refine range_enter (gf := 13) (lb := #[.pointer (some ⟨wr.heap.size + 3, 0, none⟩)]) rfl (enters_of Yba.func13 (by kernel_rfl) rfl) ?_
          intro fn rec hrec
          obtain ⟨hM, hBs, hsz⟩ := MI.start (n0 := w.heap.size) (wr := wr) (z := z) ((q : Int) + 1) true (.func (.func 10) #[] #[.pointer (some ⟨w.heap.size, 0, none⟩), .pointer (some ⟨w.heap.size + 1, 0, none⟩)]) (rec .ready none) (by omega) hx1
          have hs4 : ((((wr.alloc (Obj.cells #[Value.int IntKind.i64 ((q : Int) + 1)] 3)).alloc (Obj.cells #[Value.bool true] 4)).alloc (Obj.cells #[Value.slice none 0 0] 35)).alloc (Obj.cells #[Value.func (Fn.func 10) #[] #[Value.pointer (some ⟨w.heap.size, 0, none⟩), Value.pointer (some ⟨w.heap.size + 1, 0, none⟩)]] 39)).heap.size = wr.heap.size + 4 := by simp
          rw [hs4]
          generalize ((((((wr.alloc (Obj.cells #[Value.int IntKind.i64 ((q : Int) + 1)] 3)).alloc (Obj.cells #[Value.bool true] 4)).alloc (Obj.cells #[Value.slice none 0 0] 35)).alloc (Obj.cells #[Value.func (Fn.func 10) #[] #[Value.pointer (some ⟨w.heap.size, 0, none⟩), Value.pointer (some ⟨w.heap.size + 1, 0, none⟩)]] 39)).alloc (.deferred (some []))).alloc (.loop (rec .ready none))) = W1 at *
          have hold : ∀ i, i < w.heap.size → wr.heap[i]? = w.heap[i]? := fun i hi => (H2.out.below.block i (by omega)).trans (hB1.block i hi)
          have hN : w.heap.size + 1 < wr.heap.size := by omega
          have hel := HEL.out
          clear HEL HA y1 y2 y0
          refine (compact_in (wr.heap.size + 5) (wr.heap.size + 3) w.heap.size (w.heap.size + 1) len cap a z (fun p k V => MI w.heap.size wr.heap.size wr z ((q : Int) + 1) true (rec .ready none) p k V ∧ (starts z k).length ≤ q)
            (fun k V => MI w.heap.size wr.heap.size wr z ((q : Int) + 1) true (rec .done (some (.exit 2))) (k : Int) k V ∧ (starts z k).length = q + 1 ∧ ∃ j, k = j + 1 ∧ isNew z j = true) hlen W1
            (fun p k V h => h.1.facts hN hx0 hold hel) (cell_of_one hBs) (fun p k V V' h ha => ⟨h.1.apart hN (by rw [hsz] at ha; exact ha), h.2⟩) (fun k V V' h ha => ⟨h.1.apart hN (by rw [hsz] at ha; exact ha), h.2⟩)
            (fun k V _ h => ⟨h.1.pull hN _, h.2⟩) (fun k V _ hn h => ⟨h.1.old_ hn, by rw [starts_old hn]; exact h.2⟩) ?_ ⟨hM, by simp [starts]⟩).mono ?_
          · rintro k V hk hnew hVs ⟨hV, hcq⟩
            rw [hsz] at hVs ⊢
            refine round_at hrec hV.l0 rfl ?_
            clear hrec
            gi_wp2
            refine ⟨hV.l0, ?_⟩
            have hV2 := hV.putLoop hN (rec .busy none)
            have hVs2 : wr.heap.size + 11 ≤ (V.putObj (wr.heap.size + 5) (.loop (rec .busy none))).heap.size := by rw [World.putObj_size]; exact hVs
            have hKv0 : Keep (wr.heap.size + 6) (wr.heap.size + 11) V (V.putObj (wr.heap.size + 5) (.loop (rec .busy none))) := fun i h1 h2 => World.putObj_heap_other (by omega)
            generalize V.putObj (wr.heap.size + 5) (.loop (rec .busy none)) = V2 at *
            have hKv : Keep (wr.heap.size + 6) (wr.heap.size + 11) V V2 := hKv0
            clear hKv0 hV
            obtain ⟨gv, hg1, hg2⟩ := hV2.got
            have hle2 := starts_le z k
            have hsn := starts_new hnew
            have HL : Hid ((starts z (k + 1)).length = (starts z k).length + 1) := by show _ = _; rw [hsn]; simp
            have cg : V2.cell? ⟨wr.heap.size + 1 + 1, 0, none⟩ = some gv := cell_of_one hg1
            obtain ⟨i37, hi37, hz37, hs37, hb37⟩ := info_parts Yba.info37
            have HV2 : Hid (MI w.heap.size wr.heap.size wr z ((q : Int) + 1) true (rec .busy none) ((k + 1 : Nat) : Int) k V2) := hV2
            have HG : Hid (V2.heap[wr.heap.size + 2]? = some (.cells #[gv] 35 (0, 0)) ∧ V2.ownsRow (wr.heap.size + 11) 37 1 gv (starts z k).length ((starts z k).map fun i => .int .i8 (z i))) := ⟨hg1, hg2⟩
            have HNW : Hid (isNew z k = true) := hnew
            clear hV2 hg1 hg2 hnew hM hBs hx0 hx1 hold hel hsn
            by_cases hcl : (starts z k).length = q
            · have ecl : ((((starts z k).length : Nat) : Int) + 1 == (q : Int) + 1) = true := by simp [hcl]
              have HCL : Hid ((starts z k).length = q) := hcl
              clear hcl
              gi_wp2_with (gi_at_builtin; refine wpListIn_append_own _ rfl _ _ 35 rfl (wr.heap.size + 11) 37 i37 (.int .i8 0) 1 1 Yba.underlying35 hi37 hz37 hs37 hb37 rfl (by decide) _ _ _ rfl (HG.out.2.alloc _) ⟨V2.heap.size, 0, none⟩ 1 1 [.int .i8 (z k)] rfl rfl (cell_one_new _ _ _) (by simp [Value.oneCell']) (by unfold maxLen; omega) (by omega) (by simp; omega) ?_; intro v1 w2 hown1 hgrow1 _; obtain ⟨hM3, hK3, hb3⟩ := HV2.out.append hN hVs2 HNW.out HG.out.1 HG.out.2 hown1 hgrow1; obtain ⟨p1, c1, rfl, _, _⟩ := own_form hown1; have cg3 : w2.cell? ⟨wr.heap.size + 1 + 1, 0, none⟩ = some gv := cell_of_one hb3; have fg3 : w2.frozen? ⟨wr.heap.size + 1 + 1, 0, none⟩ = false := free_of_one hb3; have cb3 : (w2.setCell ⟨wr.heap.size + 1 + 1, 0, none⟩ (.slice p1 ((starts z k).length + 1) c1)).cell? ⟨wr.heap.size + 1, 0, none⟩ = some (.bool true) := cell_of_one hM3.brk; have cg4 : (w2.setCell ⟨wr.heap.size + 1 + 1, 0, none⟩ (.slice p1 ((starts z k).length + 1) c1)).cell? ⟨wr.heap.size, 0, none⟩ = some (.int .i64 ((q : Int) + 1)) := cell_of_one hM3.lim; have HM3 : Hid (MI w.heap.size wr.heap.size wr z ((q : Int) + 1) true (rec .busy none) ((k + 1 : Nat) : Int) (k + 1) (w2.setCell ⟨wr.heap.size + 2, 0, none⟩ (.slice p1 ((starts z k).length + 1) c1))) := hM3; clear hM3 hb3 hown1 hgrow1)
              exact ⟨HM3.out.l0, .inr ⟨rfl, ⟨HM3.out.putLoop hN _, by rw [HL.out, HCL.out], k, rfl, HNW.out⟩, fun i h1 h2 => (World.putObj_heap_other (by omega)).trans ((hK3 i h1 (by omega)).trans (hKv i h1 (by omega)))⟩⟩
            · have ecl : ((((starts z k).length : Nat) : Int) + 1 == (q : Int) + 1) = false := by simp; omega
              gi_wp2_with (gi_at_builtin; refine wpListIn_append_own _ rfl _ _ 35 rfl (wr.heap.size + 11) 37 i37 (.int .i8 0) 1 1 Yba.underlying35 hi37 hz37 hs37 hb37 rfl (by decide) _ _ _ rfl (HG.out.2.alloc _) ⟨V2.heap.size, 0, none⟩ 1 1 [.int .i8 (z k)] rfl rfl (cell_one_new _ _ _) (by simp [Value.oneCell']) (by unfold maxLen; omega) (by omega) (by simp; omega) ?_; intro v1 w2 hown1 hgrow1 _; obtain ⟨hM3, hK3, hb3⟩ := HV2.out.append hN hVs2 HNW.out HG.out.1 HG.out.2 hown1 hgrow1; obtain ⟨p1, c1, rfl, _, _⟩ := own_form hown1; have cg3 : w2.cell? ⟨wr.heap.size + 1 + 1, 0, none⟩ = some gv := cell_of_one hb3; have fg3 : w2.frozen? ⟨wr.heap.size + 1 + 1, 0, none⟩ = false := free_of_one hb3; have cb3 : (w2.setCell ⟨wr.heap.size + 1 + 1, 0, none⟩ (.slice p1 ((starts z k).length + 1) c1)).cell? ⟨wr.heap.size + 1, 0, none⟩ = some (.bool true) := cell_of_one hM3.brk; have cg4 : (w2.setCell ⟨wr.heap.size + 1 + 1, 0, none⟩ (.slice p1 ((starts z k).length + 1) c1)).cell? ⟨wr.heap.size, 0, none⟩ = some (.int .i64 ((q : Int) + 1)) := cell_of_one hM3.lim; have HM3 : Hid (MI w.heap.size wr.heap.size wr z ((q : Int) + 1) true (rec .busy none) ((k + 1 : Nat) : Int) (k + 1) (w2.setCell ⟨wr.heap.size + 2, 0, none⟩ (.slice p1 ((starts z k).length + 1) c1))) := hM3; clear hM3 hb3 hown1 hgrow1)
              exact ⟨HM3.out.l0, .inl ⟨rfl, ⟨HM3.out.putLoop hN _, by rw [HL.out]; omega⟩, fun i h1 h2 => (World.putObj_heap_other (by omega)).trans ((hK3 i h1 (by omega)).trans (hKv i h1 (by omega)))⟩⟩
          · rintro e W2 ⟨⟨v, rfl⟩, (⟨_, hf⟩ | ⟨k, _, hkl, hMe, hcq, j, hj, hnew⟩)⟩
            · exfalso
              have := HM.out
              omega
            · refine range_left hrec hMe.l0 ?_
              have hM3 := hMe.putLoop hN (rec .exhausted (some (.exit 2)))
              generalize W2.putObj (wr.heap.size + 4 + 1) (.loop (rec .exhausted (some (.exit 2)))) = W3 at *
              clear hMe hrec hM hBs
              have hpre : ∀ i s, (starts z k)[i]? = some s → (starts z len)[i]? = some s := fun i s h => by
                have := starts_prefix (len - k) h
                rwa [show k + (len - k) = len from by omega] at this
              have hsqk : sq + 1 = k := by
                subst hj
                have e1 : (starts z (j + 1))[q]? = some j := by
                  have hl : (starts z j).length = q := by rw [starts_new hnew] at hcq; simpa using hcq
                  rw [starts_new hnew, List.getElem?_append_right (by omega)]
                  simp [hl]
                have e2 := hpre q j e1
                rw [HSQ.out] at e2
                simp at e2
                omega
              have eqk : ((k : Int) == (sq : Int) + 1) = true := by simp; omega
              obtain ⟨gv, hg1, hg2⟩ := hM3.got
              obtain ⟨pg, cgp, rfl, _, hgc⟩ := own_form hg2
              have HC : Hid ((starts z k).length = q + 1) := hcq
              rw [hcq] at hg1
              have q1 : W3.cell? ⟨wr.heap.size + 1 + 1, 0, none⟩ = some (.slice pg (q + 1) cgp) := cell_of_one hg1
              have q2 : W3.cell? ⟨wr.heap.size, 0, none⟩ = some (.int .i64 ((q : Int) + 1)) := cell_of_one hM3.lim
              have q3 : W3.cell? ⟨w.heap.size + 1, 0, none⟩ = some (.int .i64 (k : Int)) := cell_of_one hM3.pulled
              have HG : Hid (∀ j u, ((starts z k).map fun i => Value.int .i8 (z i))[j]? = some u → ∃ g, pg = some ⟨g, 0, none⟩ ∧ wr.heap.size + 11 ≤ g ∧ g < W3.heap.size ∧ W3.cell? ⟨g, j, none⟩ = some u) := hgc
              have HM3 : Hid (MI w.heap.size wr.heap.size wr z ((q : Int) + 1) true (rec .exhausted (some (.exit 2))) (k : Int) k W3) := hM3
              have HPRE : Hid (∀ i s, (starts z k)[i]? = some s → (starts z len)[i]? = some s) := hpre
              clear hgc hM3 hg1 hg2 hpre hcq hsqk hnew hj
              refine wpIn_wide.2 ?_
              go_wp2
              go_loopw [16] (fun i wx => ∃ y : Nat, y ≤ q + 1 ∧ i = .int .i64 y ∧ ∃ n, wx = W3.drewN n) (fun i _ => q + 1 - (intOf i).toNat)
              case atStart => exact ⟨0, by omega, rfl, 0, rfl⟩
              case round =>
                obtain ⟨y, hy, rfl, nx, rfl⟩ := hrel
                by_cases hkm : y < q + 1
                · obtain ⟨sk, hsk⟩ : ∃ sk, (starts z k)[y]? = some sk := ⟨_, List.getElem?_eq_getElem (by have := HC.out; omega)⟩
                  have hsk' := HPRE.out y sk hsk
                  obtain ⟨g, rfl, hg1, hg2, hg3⟩ := HG.out y (.int .i8 (z sk)) (by simp [hsk])
                  obtain ⟨g', rfl, hg1', hg2', hg3'⟩ := HW.out y (.int .i8 (z sk)) (by simp [hsk'])
                  have hg4 : W3.cell? ⟨g', y, none⟩ = some (.int .i8 (z sk)) := (World.cell?_of_block (HM3.out.old g' hg2' (by omega))).trans hg3'
                  have ki : (y : Int) < (q : Int) + 1 := by omega
                  have ki1 : (y : Int) < ((q + 1 : Nat) : Int) := by omega
                  have ki2 : (y : Int) < (m : Int) := by omega
                  have ki0 : (0 : Int) ≤ (y : Int) := by omega
                  clear hsk hsk' hg1 hg2 hg1' hg2' hg3'
                  go_wp2
                  go_quiet (fail)
                  go_wp2
                  go_roundw
                  case rel => exact ⟨y + 1, by omega, by go_num, _, rfl⟩
                  case measure => simp [intOf]; omega
                · have e : y = q + 1 := by omega
                  subst e
                  obtain ⟨hT, hB⟩ := HM3.out.shut hN (hB1.trans (H2.out.below.mono (by omega))) nx
                  go_wp2
                  exact ⟨by simp, .inl ⟨_, _, rfl, hT, _, results_tmp rfl _ _ _, rfl, hB⟩⟩
end Go.Proofs.Ybulkcglg
