import Derived.Test.YbulkcgnkDoorOp
import Derived.Deep.QuietTactic
import Derived.BigQuiet
import Derived.Deep.RegionLaw
import Derived.Deep.DrawnRows
import Derived.Deep.CutRange
import Derived.Deep.RegionWith
import Derived.Deep.RegionHeld3
namespace Go.Proofs.YbulkcgnkDoor
open Go.RowKit
attribute [local go_sem ↓] Go.wp_at_zero Go.wp_at_succ

set_option maxHeartbeats 4000000 in
set_option maxRecDepth 4000 in
theorem legal_any (w : World) (n c : Nat) (a : Option Addr) (cnt : Nat → Nat) (T : Nat → Nat → Nat × Nat) (hT : TX w n a cnt T) (hK : KindsAt w) :
    Calls Ybad.prog 4 #[.slice a n c] w fun e w' => ∃ S L who dom, e = .returned (.pointer (some ⟨w.heap.size + 1, 0, none⟩)) ∧ Core w (.slice a n c) w' S L who dom ∧ ∀ it, (L it).map (fun l => (l.txn, l.hs)) = doneL T cnt it n := by
  have hmm := @run_makeMap Ybad.prog
  have hfew := hT.few
  have hw0 : 0 < w.heap.size := World.block_lt_of_cell? w _ (hK 0 (by omega))
  go_enter Ybad.func4, Ybad.ntmps4
  go_wp2
  have C0 : Core w (.slice a n c) ((w.alloc (Obj.map #[] 0)).alloc (Obj.cells #[Value.slice a n c, Value.map (some w.heap.size)] 34)) (fun _ => .slice none 0 0) (fun _ => []) (fun _ => none) [] := by
    refine ⟨⟨fun it => World.ownsRow_nil _ _ _ _, fun it j l h => by simp at h, fun it g h => by simp [Value.ownBlock] at h, fun it j l g h => by simp at h⟩, (mapF_new w _).alloc _, fun k => by simp, fun _ _ => rfl, ?_, ?_⟩
    · have := heap_alloc_new (w.alloc (Obj.map #[] 0)) (Obj.cells #[Value.slice a n c, Value.map (some w.heap.size)] 34)
      rwa [World.size_alloc] at this
    · exact ((Below.refl _ _).alloc (Nat.le_refl _) _).alloc (by simp) _
  have HC0 : Hid (Core w (.slice a n c) ((w.alloc (Obj.map #[] 0)).alloc (Obj.cells #[Value.slice a n c, Value.map (some w.heap.size)] 34)) (fun _ => .slice none 0 0) (fun _ => []) (fun _ => none) []) := C0
  clear C0
  go_loopw [20] (fun s20 wr => ∃ (i : Nat) (S : Nat → Value) (L : Nat → List LK) (who : Nat → Option (Nat × Option Nat)) (dom : List Int), i ≤ n ∧ s20 = .int .i64 i ∧ Core w (.slice a n c) wr S L who dom ∧ ∀ it, (L it).map (fun l => (l.txn, l.hs)) = doneL T cnt it i) (fun s20 _ => n - (intOf s20).toNat)
  case atStart => exact ⟨0, _, _, _, _, by omega, rfl, HC0.out, fun it => rfl⟩
  case round =>
    obtain ⟨i, S, L, who, dom, hi, rfl, hC, hlk⟩ := hrel
    clear HC0
    by_cases hlt : i < n
    · obtain ⟨X, ra, rc, rfl, hrow, hops⟩ := hT.rows i hlt
      have hX : X < w.heap.size := World.block_lt_of_cell? w _ hrow
      have r0 : wr.cell? ⟨X, i, none⟩ = some (.slice ra (cnt i) rc) := (hC.below.cell (p := ⟨X, i, none⟩) hX).trans hrow
      have ii : (i : Int) < (n : Int) := by omega
      have ii0 : (0 : Int) ≤ (i : Int) := by omega
      have hcn := hT.short i hlt
      have HC : Hid (Core w (.slice (some ⟨X, 0, none⟩) n c) wr S L who dom ∧ ∀ it, (L it).map (fun l => (l.txn, l.hs)) = doneL T cnt it i) := ⟨hC, hlk⟩
      clear hC hlk
      go_wp2
      have HL0 : Hid (LI w (.slice (some ⟨X, 0, none⟩) n c) T cnt i wr.heap.size (wr.heap.size + 1) 0 ((wr.alloc (.map #[] 0)).alloc (.map #[] 0)) S L who dom [] (fun _ => .int .i64 0) [] (fun _ => .int .i64 0)) := li_start HC.out.1 HC.out.2 _
      clear HC
      have hbH : w.heap.size + 2 ≤ wr.heap.size := HL0.out.bh
      generalize wr.heap.size = Hd at HL0 hbH ⊢
      generalize Hd + 1 = Mn at HL0 ⊢
      clear r0
      generalize (wr.alloc (.map #[] 0)).alloc (.map #[] 0) = wr at HL0 ⊢
      go_loopw [29] (fun s29 wr => ∃ (q : Nat) (S : Nat → Value) (L : Nat → List LK) (who : Nat → Option (Nat × Option Nat)) (dom hdom : List Int) (hg : Int → Value) (mdom : List Int) (mg : Int → Value), q ≤ cnt i ∧ s29 = .int .i64 q ∧ LI w (.slice (some ⟨X, 0, none⟩) n c) T cnt i Hd Mn q wr S L who dom hdom hg mdom mg) (fun s29 _ => cnt i - (intOf s29).toNat)
      case atStart => exact ⟨0, _, _, _, _, _, _, _, _, by omega, rfl, HL0.out⟩
      case round =>
        obtain ⟨q, S, L, who, dom, hdom, hg, mdom, mg, hq, rfl, hL⟩ := hrel
        clear HL0
        by_cases hql : q < cnt i
        · obtain ⟨R, t, rfl, k0, k1, k2⟩ := hops q hql
          have hkind := hT.kind i q hlt hql
          have hR : R < w.heap.size := World.block_lt_of_cell? w _ k0
          have b0 : wr.cell? ⟨R, q * 3, none⟩ = some (.int .i64 ((T i q).1 : Int)) := (hL.core.below.cell (p := ⟨R, q * 3, none⟩) hR).trans k0
          have b1 : wr.cell? ⟨R, q * 3 + 1, none⟩ = some (.int .i64 t) := (hL.core.below.cell (p := ⟨R, q * 3 + 1, none⟩) hR).trans k1
          have b2 : wr.cell? ⟨R, q * 3 + 2, none⟩ = some (.int .i64 ((T i q).2 : Int)) := (hL.core.below.cell (p := ⟨R, q * 3 + 2, none⟩) hR).trans k2
          have qq : (q : Int) < (cnt i : Int) := by omega
          have qq0 : (0 : Int) ≤ (q : Int) := by omega
          have HL : Hid (LI w (.slice (some ⟨X, 0, none⟩) n c) T cnt i Hd Mn q wr S L who dom hdom hg mdom mg) := hL
          clear hL hops k0 k1 k2
          have hKr : KindsAt (wr.alloc (Obj.cells #[Value.int IntKind.i64 ((T i q).1 : Int), Value.int IntKind.i64 t, Value.int IntKind.i64 ((T i q).2 : Int)] 29)) := fun j hj => ((HL.out.core.alloc _).below.cell (p := ⟨0, j, none⟩) hw0).trans (hK j hj)
          go_wp2_with fail
          refine (modeOf_any _ _ hkind.1 hKr).mono ?_
          rintro _ _ ⟨rfl, rfl⟩
          clear b0 b1 b2 hKr qq0
          have HL' : Hid _ := HL.out.alloc (Obj.cells #[Value.int IntKind.i64 ((T i q).1 : Int), Value.int IntKind.i64 t, Value.int IntKind.i64 ((T i q).2 : Int)] 29)
          clear HL
          have hOp : Hid (OpAt (wr.alloc (Obj.cells #[Value.int IntKind.i64 ((T i q).1 : Int), Value.int IntKind.i64 t, Value.int IntKind.i64 ((T i q).2 : Int)] 29)) wr.heap.size (T i q).1 t (T i q).2) := opAt_new wr (T i q).1 t (T i q).2
          generalize wr.alloc (Obj.cells #[Value.int IntKind.i64 ((T i q).1 : Int), Value.int IntKind.i64 t, Value.int IntKind.i64 ((T i q).2 : Int)] 29) = w1 at HL' hOp ⊢
          generalize wr.heap.size = P at hOp ⊢
          clear wr
          clear hK hrow hR qq hmm
          obtain ⟨k, hk⟩ : ∃ k, (T i q).1 = k := ⟨_, rfl⟩
          obtain ⟨it, hit⟩ : ∃ it, (T i q).2 = it := ⟨_, rfl⟩
          rw [hk, hit] at hOp
          rw [hk]
          have p0 := hOp.out.c0
          have p2 := hOp.out.c2
          rw [hk, hit] at hkind
          rw [hit]
          have hlg := HL'.out.core.lg
          obtain ⟨len, hlen⟩ : ∃ len, (doneL T cnt it i).length = len := ⟨_, rfl⟩
          have hll := doneL_len T cnt it i
          rw [hlen] at hll
          by_cases hr : rel k = true
          · have hgo : (((mode k : Int) == 0) = true ∧ ((k : Int) == 10) = true) ∨ ((mode k : Int) == 0) = false := by
              simp [rel] at hr
              simp
              omega
            have hK : Hid ((T i q).1 = k) := hk
            have hI : Hid ((T i q).2 = it) := hit
            have hR : Hid (rel k = true) := hr
            have hGo : Hid ((((mode k : Int) == 0) = true ∧ ((k : Int) == 10) = true) ∨ ((mode k : Int) == 0) = false) := hgo
            clear hk hit hr hgo
            dsimp only
            iterate 8 go_step
            go_cut [] from 30 to 121 (fun wx => w1 = wx)
            case first =>
              rcases hGo.out with ⟨hg1, hg2⟩ | hg1
              · go_wp2
                go_meet
                case rel => rfl
              · go_wp2
                go_meet
                case rel => rfl
            case rest =>
              obtain rfl := hcut
              obtain ⟨vv, bb, hlo, hvb⟩ := HL'.out.ask hkind.2 hlen
              have HV : Hid ((bb = true ∧ vv = .int .i64 (len : Int) ∧ (it : Int) ∈ mdom) ∨ (bb = false ∧ (it : Int) ∉ mdom)) := hvb
              clear hvb
              iterate 2 go_step
              go_cut [11, 12] from 30 to 121 (fun s11 s12 wx => vv = s11 ∧ Value.bool bb = s12 ∧ w1 = wx)
              case first =>
                go_wp2
                go_meet
                case rel => exact ⟨rfl, rfl, rfl⟩
              case rest =>
                obtain ⟨rfl, rfl, rfl⟩ := hcut
                clear hlo
                iterate 2 go_step
                have HVH : Hid (∀ it' : Nat, it' < 4 → (if (it' : Int) ∈ hdom then hg it' else .int .u16 0) = .int .u16 (runH (T i) it' q).1) := HL'.out.hv
                go_cut [11] from 30 to 121 (fun s11 wx => s11 = .int .i64 (len : Int) ∧ OpAt wx P k t it ∧ Hid (∃ S L who dom mdom mg, LJ w (.slice (some ⟨X, 0, none⟩) n c) T cnt i Hd Mn q it wx S L who dom hdom hg mdom mg))
                case first =>
                  rcases HV.out with ⟨rfl, rfl, hm⟩ | ⟨rfl, hm⟩
                  · have hm : Hid _ := hm
                    go_wp2
                    go_meet
                    case rel => exact ⟨rfl, hOp.out, ⟨_, _, _, _, _, _, HL'.out.known hkind.2 hm.out⟩⟩
                  · have hlk : ∀ x, (Instr.lookup 32 (.map (some w.heap.size)) (.int .i64 (it : Int)) false).run Ybad.prog (w1.drewN x) = .ok (S it) (w1.drewN x) := fun x => (HL'.out.core.drewN x).look hkind.2
                    have hLl := (HL'.out.fresh hkind.2 hm).2.1
                    rw [hlen] at hLl
                    obtain ⟨sa, sc, hS⟩ : ∃ sa sc, S it = .slice sa len sc := own_slice (hLl ▸ HL'.out.core.own.lock it)
                    rw [hS] at hlk
                    have hS : Hid (S it = .slice sa len sc) := hS
                    have hm : Hid ((it : Int) ∉ mdom) := hm
                    clear hLl
                    go_wp2
                    go_quiet (fail)
                    have HLq : Hid _ := HL'.out.drewN nq
                    have hOpq : Hid (OpAt (w1.drewN nq) P k t it) := hOp.out.drewN nq
                    have p2 : (w1.drewN nq).cell? ⟨P, 2, none⟩ = some (.int .i64 (it : Int)) := p2
                    clear HL' hOp hlg p0 hlk
                    generalize w1.drewN nq = wq at HLq hOpq p2 ⊢
                    obtain ⟨w2, hup, hF⟩ := HLq.out.lay hOpq.out hm.out hlen
                    have HF : Hid _ := hF
                    have hlg := hF.core.lg
                    have p3 := hF.op.c2
                    have hlk : (Instr.lookup 32 (.map (some w.heap.size)) (.int .i64 (it : Int)) false).run Ybad.prog w2.drew = .ok (S it) w2.drew := (hF.core.drewN 1).look hkind.2
                    have hlka : ∀ o, (Instr.lookup 32 (.map (some w.heap.size)) (.int .i64 (it : Int)) false).run Ybad.prog (w2.alloc o).drew = .ok (S it) (w2.alloc o).drew := fun o => ((hF.core.alloc o).drewN 1).look hkind.2
                    rw [hS.out] at hlk hlka
                    have hlga : ∀ o, (w2.alloc o).cell? ⟨w.heap.size + 1, 1, none⟩ = some (.map (some w.heap.size)) := fun o => (hF.core.alloc o).lg
                    have p3a : ∀ o, (w2.alloc o).cell? ⟨P, 2, none⟩ = some (.int .i64 (it : Int)) := fun o => (hF.op.alloc o).c2
                    have hown : Hid (w2.ownsRow (w.heap.size + 2) 41 2 (.slice sa len sc) len (lcells (L it))) := hF.own hkind.2 hlen hS.out
                    clear hF HLq hOpq
                    obtain ⟨i41, hi41, hz41, hs41, hb41⟩ := info_parts info41
                    have hBB : w.heap.size + 2 ≤ w2.heap.size := HF.out.core.size
                    go_wp2
                    go_region_held3 (fun W => W.cell? ⟨w.heap.size + 1, 1, none⟩ = some (.map (some w.heap.size)) ∧ W.cell? ⟨P, 2, none⟩ = some (.int .i64 (it : Int))) (first | exact ⟨hlg, p3⟩ | exact ⟨hlga _, p3a _⟩ | exact ⟨s0, s1⟩ | exact ⟨s2, s3⟩) ((refine step_append_lies _ (by rfl) _ _ _ (by rfl) (w.heap.size + 2) 41 i41 _ 2 32 Ybad.underlying35 hi41 hz41 hs41 hb41 rfl (by omega) (.slice sa len sc) len (lcells (L it)) (by rfl) ((hown.out.alloc _).drew) ⟨w2.heap.size, 0, none⟩ 1 1 [.int .i64 (i : Int), .slice none 0 0] (by rfl) (by rfl) (World.news_of_block (cs := #[.int .i64 (i : Int), .slice none 0 0]) (t := 41) (fr := (0, 0)) (heap_alloc_new w2 _)) (by simp [Value.oneCell']) (by omega) (by unfold maxLen; omega) (by omega) (by simp; omega) (w2.heap.size + 1) (by simp) ?_; intro gg cp w3 hown1 hgrow hat hlt1; obtain ⟨s0, s1, w4, hup4, hop4, s2, hLJ⟩ := HF.out.laid hkind.2 hlen hS.out (by simp) hown1 hgrow hat; have s3 := hop4.c2; have hop4 : Hid (OpAt w4 P k t it) := hop4; clear hown1 hgrow))
                    all_goals
                      go_wp2
                      go_meet
                      case rel => exact ⟨rfl, hop4.out, hLJ⟩
                case rest =>
                  obtain ⟨rfl, hOp2, hLJ⟩ := hcut
                  clear hOp HL' p0 p2 hlg HV
                  have p2 := hOp2.c2
                  have hOp2 : Hid (OpAt wc P k t it) := hOp2
                  obtain ⟨S, L, who, dom, mdom, mg, hLJ⟩ := hLJ.out
                  have hLJ : Hid (LJ w (.slice (some ⟨X, 0, none⟩) n c) T cnt i Hd Mn q it wc S L who dom hdom hg mdom mg) := hLJ
                  iterate 2 go_step
                  go_cut [] from 30 to 121 (fun wx => OpAt wx P k t it ∧ Hid (∃ S L who dom hdom hg mdom mg, LJ w (.slice (some ⟨X, 0, none⟩) n c) T cnt i Hd Mn q it wx S L who dom hdom hg mdom mg ∧ ∀ it' : Nat, it' < 4 → (if (it' : Int) ∈ hdom then hg it' else .int .u16 0) = .int .u16 (runH (T i) it' (q + 1)).1))
                  case first =>
                    have hm9 := mode_lt k hkind.1
                    rcases hGo.out with ⟨hg1, hg2⟩ | hg1
                    · obtain ⟨w5, hup5, hop5, hd5, hg5, hlj5, hv5⟩ := hLJ.out.held hOp2.out hkind.2 hK.out hI.out hR.out HVH.out (v := 0) (by simp at hg1; simp [heldAfter, hg1])
                      have HF5 : Hid _ := And.intro hlj5 hv5
                      have hop5 : Hid (OpAt w5 P k t it) := hop5
                      clear hlj5 hv5
                      go_wp2
                      go_meet
                      case rel => exact ⟨hop5.out, ⟨_, _, _, _, _, _, _, _, HF5.out⟩⟩
                    · have hlk5 := hLJ.out.heldNow hkind.2 HVH.out
                      have hlk6 : (Instr.lookup 46 (.map (some Hd)) (.int .i64 (it : Int)) false).run Ybad.prog wc.drew = .ok (.int .u16 (runH (T i) it q).1) wc.drew := (hLJ.out.drewN 1).heldNow hkind.2 HVH.out
                      obtain ⟨w5, hup5, hop5, hd5, hg5, hlj5, hv5⟩ := (hLJ.out.drewN 1).held (hOp2.out.drewN 1) hkind.2 hK.out hI.out hR.out HVH.out (v := orv (runH (T i) it q).1 (mode k)) (by simp at hg1; simp [heldAfter, hg1])
                      have hup5 : (Instr.mapUpdate 46 (.map (some Hd)) (.int .i64 (it : Int)) (.int .u16 (orv (runH (T i) it q).1 (mode k)))).run Ybad.prog wc.drew = .ok () w5 := hup5
                      have HF5 : Hid _ := And.intro hlj5 hv5
                      have hop5 : Hid (OpAt w5 P k t it) := hop5
                      have p5 := hop5.out.c2
                      clear hlj5 hv5
                      go_wp2
                      go_region_held3 (fun W => W.cell? ⟨P, 2, none⟩ = some (.int .i64 (it : Int))) (first | exact p2 | exact p5) (first | (go_at_call 7; refine (with_any _ _ _ hm9).mono ?_; rintro e w' ⟨rfl, rfl⟩))
                      all_goals
                        go_wp2
                        go_meet
                        case rel => exact ⟨hop5.out, ⟨_, _, _, _, _, _, _, _, HF5.out⟩⟩
                  case rest =>
                    obtain ⟨hOp5, hLJ5⟩ := hcut
                    clear hLJ hOp2 p2 HVH
                    obtain ⟨S, L, who, dom, hdom, hg, mdom, mg, hLJ, hV⟩ := hLJ5.out
                    clear hLJ5
                    obtain ⟨gS, cS, l, hS, hl, ht, hhs, q0⟩ := hLJ.at_
                    rw [hlen] at hS hl q0
                    have hl1 : (len : Int) < ((len + 1 : Nat) : Int) := by omega
                    have hl0 : (0 : Int) ≤ (len : Int) := by omega
                    have hlg := hLJ.core.lg
                    have p2 := hOp5.c2
                    have hlk : ∀ x, (Instr.lookup 32 (.map (some w.heap.size)) (.int .i64 (it : Int)) false).run Ybad.prog (wc.drewN x) = .ok (S it) (wc.drewN x) := fun x => (hLJ.core.drewN x).look hkind.2
                    rw [hS] at hlk
                    have HA : Hid (LJ w (.slice (some ⟨X, 0, none⟩) n c) T cnt i Hd Mn q it wc S L who dom hdom hg mdom mg) := hLJ
                    have HO : Hid (OpAt wc P k t it) := hOp5
                    have HB : Hid (∀ it' : Nat, it' < 4 → (if (it' : Int) ∈ hdom then hg it' else .int .u16 0) = .int .u16 (runH (T i) it' (q + 1)).1) := hV
                    have HC : Hid (S it = .slice (some ⟨gS, 0, none⟩) (len + 1) cS ∧ (L it)[len]? = some l ∧ l.txn = i ∧ l.hs = (runH (T i) it q).2) := ⟨hS, hl, ht, hhs⟩
                    clear hLJ hOp5 hV hS hl ht hhs
                    go_wp2
                    go_quiet (fail)
                    have q1 : (wc.drewN nq).cell? ⟨gS, len * 2 + 1, none⟩ = some l.hv := q0
                    have p3 : (wc.drewN nq).cell? ⟨P, 2, none⟩ = some (.int .i64 (it : Int)) := p2
                    have HA' : Hid (LJ w (.slice (some ⟨X, 0, none⟩) n c) T cnt i Hd Mn q it (wc.drewN nq) S L who dom hdom hg mdom mg) := HA.out.drewN nq
                    have HO' : Hid (OpAt (wc.drewN nq) P k t it) := HO.out.drewN nq
                    clear HA HO q0 p2 hlk hlg
                    generalize wc.drewN nq = wq at q1 p3 HA' HO' ⊢
                    clear wc
                    have p3a : ∀ o, (wq.alloc o).cell? ⟨P, 2, none⟩ = some (.int .i64 (it : Int)) := fun o => (HO'.out.alloc o).c2
                    have hgl : gS < wq.heap.size := World.block_lt_of_cell? wq _ q1
                    obtain ⟨hn, hhn⟩ : ∃ hn, l.hs.length = hn := ⟨_, rfl⟩
                    have hown0 := HA'.out.core.own.hold it len l HC.out.2.1
                    rw [hhn] at hown0
                    obtain ⟨ha, hc, hlv⟩ := own_slice hown0
                    have hLV : Hid (l.hv = .slice ha hn hc) := hlv
                    rw [hlv] at q1 hown0
                    have q1a : ∀ o, (wq.alloc o).cell? ⟨gS, len * 2 + 1, none⟩ = some (.slice ha hn hc) := fun o => (World.cell?_of_block (w := wq) (Below.heap_alloc wq o gS hgl)).trans q1
                    have hown : Hid (wq.ownsRow (w.heap.size + 2) 44 2 (.slice ha hn hc) hn (hcells l.hs)) := hown0
                    have hhs : hn ≤ 1024 := by
                      have := runH_len (T i) it q
                      rw [← HC.out.2.2.2, hhn] at this
                      omega
                    have hlk5 : (Instr.lookup 46 (.map (some Hd)) (.int .i64 (it : Int)) false).run Ybad.prog wq.drew = .ok (.int .u16 (runH (T i) it (q + 1)).1) wq.drew := (HA'.out.drewN 1).heldNext hkind.2 HB.out
                    obtain ⟨i44, hi44, hz44, hs44, hb44⟩ := info_parts info44
                    have hBB : w.heap.size + 2 ≤ wq.heap.size := HA'.out.core.size
                    have hq1 : IntKind.i64.wrap ((q : Int) + 1) = (q : Int) + 1 := by rw [IntKind.wrap_i64]; omega
                    clear hown0 hlv
                    go_wp2
                    go_region_law ((refine step_append_lies _ (by rfl) _ _ _ (by rfl) (w.heap.size + 2) 44 i44 _ 2 16 Ybad.underlying39 hi44 hz44 hs44 hb44 rfl (by omega) (.slice ha hn hc) hn (hcells l.hs) (by rfl) ((hown.out.alloc _).drew) ⟨wq.heap.size, 0, none⟩ 1 1 [.int .i64 ((q : Int) + 1), .int .u16 (runH (T i) it (q + 1)).1] (by rfl) (by rfl) (World.news_of_block (cs := #[.int .i64 ((q : Int) + 1), .int .u16 (runH (T i) it (q + 1)).1]) (t := 44) (fr := (0, 0)) (heap_alloc_new wq _)) (by simp [Value.oneCell']) (by omega) (by unfold maxLen; omega) (by omega) (by simp; omega) (wq.heap.size + 1) (by simp) ?_; intro gg cp w3 hown1 hgrow hat hlt1; obtain ⟨r0, r1, s1, s2, hLI⟩ := HA'.out.hold HO'.out hkind.2 hK.out hI.out hR.out HB.out hlen HC.out.1 HC.out.2.1 HC.out.2.2.1 HC.out.2.2.2 hLV.out hhn (by simp) hown1 hgrow hat; clear hown1 hgrow))
                    all_goals
                      go_wp2
                      obtain ⟨S, L, who, dom, hdom, hg, mdom, mg, hLI⟩ := hLI.out
                      exact ⟨⟨q + 1, S, L, who, dom, hdom, hg, mdom, mg, by omega, by go_num, hLI⟩, by simp [intOf]; omega⟩
          · have hmk : ((mode k : Int) == 0) = true := by
              simp [rel] at hr
              simp [hr.1]
            have hk10 : ((k : Int) == 10) = false := by
              simp [rel] at hr
              simp; omega
            have HR : Hid (rel k = false) := (by simpa using hr : rel k = false)
            clear hr
            go_wp2
            exact ⟨⟨q + 1, S, L, who, dom, hdom, hg, mdom, mg, by omega, by go_num, HL'.out.miss (by rw [hk]; exact HR.out)⟩, by simp [intOf]; omega⟩
        · have e : q = cnt i := by omega
          have HL : Hid (LI w (.slice (some ⟨X, 0, none⟩) n c) T cnt i Hd Mn (cnt i) wr S L who dom hdom hg mdom mg) := e ▸ hL
          have hqn : ¬ ((q : Int) < (cnt i : Int)) := by omega
          clear hL hops hql hq e
          go_wp2
          refine ⟨⟨i + 1, S, L, who, dom, by omega, by go_num, HL.out.core, fun it => (HL.out.lk it).trans (curL_cnt T cnt it i)⟩, ?_⟩
          simp [intOf]; omega
    · have e : i = n := by omega
      subst e
      have HC : Hid (Core w (.slice a i c) wr S L who dom ∧ ∀ it, (L it).map (fun l => (l.txn, l.hs)) = doneL T cnt it i) := ⟨hC, hlk⟩
      clear hC hlk
      go_wp2
      go_ret
      exact ⟨S, L, who, dom, rfl, HC.out.1, HC.out.2⟩
end Go.Proofs.YbulkcgnkDoor
