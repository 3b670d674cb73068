import Derived.Test.YbulkcgnkDoorBuild
import Derived.Test.YbulkcgnkDoorLegal
import Derived.Test.YbulkcgnkDoorPlain
import Derived.Deep.QuietTactic
import Derived.BigQuiet
import Derived.Deep.RegionLaw
import Derived.Deep.DrawnRows
import Derived.Deep.CutRange
import Derived.Deep.RegionWith
import Derived.Deep.RegionHeld3
namespace Go.Proofs.YbulkcgnkDoor
open Go.RowKit
attribute [local go_sem ↓] Go.wp_at_zero Go.wp_at_succ

/-- The steps, as they lie in memory. -/
def StepsAt (w : World) (a : Option Addr) (len : Nat) (F : Nat → Nat → Nat) : Prop :=
  ∀ j, j < len → ∃ b off, a = some ⟨b, off, none⟩ ∧ ∀ e, e < 3 → w.cell? ⟨b, off + j * 3 + e, none⟩ = some (.int .u8 (F j e : Int)) ∧ F j e < 256

theorem step_laid (w : World) (x y z : Nat) :
    (w.alloc (Obj.cells #[Value.int IntKind.u8 (x : Int), Value.int IntKind.u8 (y : Int), Value.int IntKind.u8 (z : Int)] 25)).cell? ⟨w.heap.size, 1, none⟩ = some (.int .u8 (y : Int)) ∧
    (w.alloc (Obj.cells #[Value.int IntKind.u8 (x : Int), Value.int IntKind.u8 (y : Int), Value.int IntKind.u8 (z : Int)] 25)).cell? ⟨w.heap.size, 2, none⟩ = some (.int .u8 (z : Int)) := by
  have hb := heap_alloc_new w (Obj.cells #[Value.int IntKind.u8 (x : Int), Value.int IntKind.u8 (y : Int), Value.int IntKind.u8 (z : Int)] 25)
  refine ⟨?_, ?_⟩ <;> (simp only [World.cell?]; rw [hb]; rfl)

theorem small_mod (x m : Nat) (hx : x < 256) (hm : 0 < m) : ∃ k : Nat, k < m ∧ (IntKind.i64.wrap (x : Int)).tmod (m : Int) = (k : Int) := by
  refine ⟨x % m, Nat.mod_lt _ hm, ?_⟩
  have : IntKind.i64.wrap (x : Int) = (x : Int) := by rw [IntKind.wrap_i64]; omega
  rw [this]
  exact (Int.ofNat_tmod x m).symm

theorem make_txns (W : World) (n : Nat) (h : 0 < n) (h4 : n ≤ 4) : (Instr.makeSlice 23 (.int .i64 (n : Int)) (.int .i64 (n : Int))).run Ybad.prog W = .ok (.slice (some ⟨W.heap.size, 0, none⟩) n n) (W.alloc (.cells (madeCells #[.slice none 0 0] n) 26)) := by
  have info26 : (Ybad.prog.info? 26).map (fun i => (i.zero, i.size, i.bytes)) = some (some (.slice none 0 0), 1, 24) := by kernel_rfl
  obtain ⟨i0, hi, hz0, hz1, hz2⟩ := info_parts info26
  have := run_make (P := Ybad.prog) W 23 26 i0 _ Ybad.underlying23 hi hz0 .i64 .i64 n n (by omega) (by omega) (by rw [hz2]; omega) (by omega)
  simpa [Value.cells, hz1] using this

theorem Core.l0 {w : World} {tv : Value} {W : World} {S : Nat → Value} {L : Nat → List LK} {who : Nat → Option (Nat × Option Nat)} {dom : List Int} (h : Core w tv W S L who dom) : W.cell? ⟨w.heap.size + 1, 0, none⟩ = some tv := by
  simp only [World.cell?]; rw [h.p0]; rfl

theorem Core.nodup {w : World} {tv : Value} {W : World} {S : Nat → Value} {L : Nat → List LK} {who : Nat → Option (Nat × Option Nat)} {dom : List Int} (h : Core w tv W S L who dom) : dom.Nodup := by
  obtain ⟨es, c, hb, hn, he⟩ := h.mp
  exact hn
theorem below_chain {w wc wl wr : World} (h1 : Below w.heap.size w wc) (h2 : Below wc.heap.size wc wl) (h3 : Below wl.heap.size wl wr) : Below w.heap.size w wr :=
  ⟨h3.os.trans (h2.os.trans h1.os), h3.tape.trans (h2.tape.trans h1.tape), h3.output.trans (h2.output.trans h1.output), Nat.le_trans h1.size (Nat.le_trans h2.size h3.size),
   fun k hk => (h3.block k (Nat.lt_of_lt_of_le hk (Nat.le_trans h1.size h2.size))).trans ((h2.block k (Nat.lt_of_lt_of_le hk h1.size)).trans (h1.block k hk))⟩

theorem map_len {W : World} {M d : Nat} {es : Array MapEntry} {c : Nat} (hb : W.heap[M]? = some (.map es c)) (hd : es.size = d) : (Builtin.len_ #[32] 3 #[Value.map (some M)]).run Ybad.prog W = .ok (.int .i64 (d : Int)) W := by
  subst hd
  simp [Builtin.len_, run_underlying Ybad.underlying32, getObj_map hb, goInt, Result.andThen]

theorem rel_forms {k : Nat} (hr : rel k = true) : (((mode k : Int) == 0) = true ∧ ((k : Int) == 10) = true) ∨ ((mode k : Int) == 0) = false := by
  simp [rel] at hr
  simp
  omega
theorem heldAfter_zero {h : Int} {k : Nat} (hg : ((mode k : Int) == 0) = true) : heldAfter h k = 0 := by
  simp at hg
  simp [heldAfter, hg]
theorem heldAfter_or {h : Int} {k : Nat} (hg : ((mode k : Int) == 0) = false) : heldAfter h k = orv h (mode k) := by
  simp at hg
  simp [heldAfter, hg]

theorem Core.lookAt {w : World} {tv : Value} {W W' : World} {S : Nat → Value} {L : Nat → List LK} {who : Nat → Option (Nat × Option Nat)} {dom : List Int} (h : Core w tv W S L who dom) (hB : Below W.heap.size W W') {it : Nat} (hit : it < 4) :
    (Instr.lookup 32 (.map (some w.heap.size)) (.int .i64 (it : Int)) false).run Ybad.prog W' = .ok (S it) W' := by
  have m := h.mp.of_block (hB.block _ h.mp.lt)
  rw [m.look Ybad.underlying32 Ybad.underlying3 (z := .slice none 0 0) (fun _ => by kernel_rfl) it, h.get hit]

set_option maxHeartbeats 4000000 in
set_option maxRecDepth 4000 in
theorem holds_any (w : World) (x len cap : Nat) (a : Option Addr) (F : Nat → Nat → Nat) (hx : x < 256) (hF : StepsAt w a len F) (hK : KindsAt w) :
    Calls Ybad.prog 3 #[.int .u8 (x : Int), .slice a len cap] w fun e w' => e = .returned (.bool true) ∧ Below w.heap.size w w' := by
  by_cases hlen : 1024 < len
  · have h1 : (1024 : Int) < (len : Int) := by omega
    clear hF
    go_enter Ybad.func3, Ybad.ntmps3
    go_wp2
    go_ret
    exact ⟨rfl, Below.refl _ _⟩
  · have h1 : decide ((1024 : Int) < (len : Int)) = false := by simp; omega
    have hw0 : 0 < w.heap.size := World.block_lt_of_cell? w _ (hK 0 (by omega))
    go_enter Ybad.func3, Ybad.ntmps3
    go_upto_if 32 with fail
    have hxe : ((x : Int) % 5) = ((x % 5 : Nat) : Int) := by omega
    rw [hxe]
    have hn4 : x % 5 ≤ 4 := by omega
    clear hxe
    generalize x % 5 = n at hn4 ⊢
    go_cut [6] from 32 to 66 (fun s6 wx => ∃ av cnt T, s6 = .slice av n n ∧ TX wx n av cnt T ∧ KindsAt wx ∧ Below w.heap.size w wx)
    case first =>
      by_cases hn : 0 < n
      · have hn' : (0 : Int) < (n : Int) := by omega
        have hnn : (n : Int) ≤ 4 := by omega
        have hmk := make_txns w n hn hn4
        have hd : decide ((0 : Int) < (n : Int)) = true := decide_eq_true hn'
        rw [hd]
        clear hd
        go_wp2
        have HB0 : Hid _ := bd_start w n
        generalize w.alloc (.cells (madeCells #[.slice none 0 0] n) 26) = w0 at HB0 ⊢
        go_loopw [37] (fun s37 wr => ∃ (j : Nat) (V : Nat → Value) (R : Nat → List (Nat × Nat)) (who : Nat → Option Nat), j ≤ len ∧ s37 = .int .i64 j ∧ BD w n j V R who wr) (fun s37 _ => len - (intOf s37).toNat)
        case atStart => exact ⟨0, _, _, _, by omega, rfl, HB0.out⟩
        case round =>
          obtain ⟨j, V, R, who, hj, rfl, hB⟩ := hrel
          clear HB0
          by_cases hjl : j < len
          · obtain ⟨b, off, rfl, hc⟩ := hF j hjl
            have hb : b < w.heap.size := World.block_lt_of_cell? w _ (hc 0 (by omega)).1
            have b0 : wr.cell? ⟨b, off + j * 3, none⟩ = some (.int .u8 (F j 0 : Int)) := (hB.below.cell (p := ⟨b, off + j * 3, none⟩) hb).trans (hc 0 (by omega)).1
            have b1 : wr.cell? ⟨b, off + j * 3 + 1, none⟩ = some (.int .u8 (F j 1 : Int)) := (hB.below.cell (p := ⟨b, off + j * 3 + 1, none⟩) hb).trans (hc 1 (by omega)).1
            have b2 : wr.cell? ⟨b, off + j * 3 + 2, none⟩ = some (.int .u8 (F j 2 : Int)) := (hB.below.cell (p := ⟨b, off + j * 3 + 2, none⟩) hb).trans (hc 2 (by omega)).1
            have f0 := (hc 0 (by omega)).2
            have f1 := (hc 1 (by omega)).2
            have f2 := (hc 2 (by omega)).2
            have jj : (j : Int) < (len : Int) := by omega
            have jj0 : (0 : Int) ≤ (j : Int) := by omega
            have HB : Hid (BD w n j V R who wr) := hB
            clear hB hc
            go_wp2
            have ht : ((F j 0 : Int) % (n : Int)) = ((F j 0 % n : Nat) : Int) := by push_cast; rfl
            rw [ht]
            have htn : F j 0 % n < n := Nat.mod_lt _ hn
            clear ht
            generalize F j 0 % n = t at htn ⊢
            have HB' : Hid _ := HB.out.alloc (Obj.cells #[Value.int IntKind.u8 ↑(F j 0), Value.int IntKind.u8 ↑(F j 1), Value.int IntKind.u8 ↑(F j 2)] 25)
            obtain ⟨p1, p2⟩ := step_laid wr (F j 0) (F j 1) (F j 2)
            clear HB b0 b1 b2
            generalize wr.alloc (Obj.cells #[Value.int IntKind.u8 ↑(F j 0), Value.int IntKind.u8 ↑(F j 1), Value.int IntKind.u8 ↑(F j 2)] 25) = wq at HB' p1 p2 ⊢
            generalize wr.heap.size = P at p1 p2 ⊢
            clear wr
            have hPq : P < wq.heap.size := World.block_lt_of_cell? wq _ p1
            have p1a : ∀ o, (wq.alloc o).cell? ⟨P, 1, none⟩ = some (.int .u8 (F j 1 : Int)) := fun o => (World.cell?_of_block (w := wq) (Below.heap_alloc wq o P hPq)).trans p1
            have p2a : ∀ o, (wq.alloc o).cell? ⟨P, 2, none⟩ = some (.int .u8 (F j 2 : Int)) := fun o => (World.cell?_of_block (w := wq) (Below.heap_alloc wq o P hPq)).trans p2
            obtain ⟨m, hm⟩ : ∃ m, (R t).length = m := ⟨_, rfl⟩
            have hml := HB'.out.len t htn
            have hown0 := HB'.out.own t htn
            rw [hm] at hown0 hml
            obtain ⟨ha, hc, hlv⟩ := own_slice3 hown0
            have q1 := HB'.out.row.cell htn
            have q1a : ∀ o, (wq.alloc o).cell? ⟨w.heap.size, t, none⟩ = some (V t) := fun o => (HB'.out.alloc o).row.cell htn
            rw [hlv] at hown0 q1
            simp only [hlv] at q1a
            have hLV : Hid (V t = .slice ha m hc) := hlv
            have hM : Hid ((R t).length = m) := hm
            have hown : Hid (wq.ownsRow (w.heap.size + 1) 29 3 (.slice ha m hc) m (ocells t (R t))) := hown0
            have hBB : w.heap.size + 1 ≤ wq.heap.size := HB'.out.row.lt
            obtain ⟨i29, hi29, hz29, hs29, hb29⟩ := info_parts info29
            have ti : (t : Int) < (n : Int) := by omega
            have ti0 : (0 : Int) ≤ (t : Int) := by omega
            have ht1 : IntKind.i64.wrap ((t : Int) + 1) = (t : Int) + 1 := by rw [IntKind.wrap_i64]; omega
            obtain ⟨k, hk14, hk1⟩ : ∃ k : Nat, k < 14 ∧ (IntKind.i64.wrap (F j 1 : Int)).tmod 14 = (k : Int) := small_mod (F j 1) 14 f1 (by omega)
            obtain ⟨it, hit4, hk2⟩ : ∃ k : Nat, k < 4 ∧ (IntKind.i64.wrap (F j 2 : Int)).tmod 4 = (k : Int) := small_mod (F j 2) 4 f2 (by omega)
            clear hown0 hlv hm hF
            go_region_law ((refine step_append_lies _ (by rfl) _ _ _ (by rfl) (w.heap.size + 1) 29 i29 _ 3 24 Ybad.underlying26 hi29 hz29 hs29 hb29 rfl (by omega) (.slice ha m hc) m (ocells t (R t)) (by rfl) ((hown.out.alloc _).drew) ⟨wq.heap.size, 0, none⟩ 1 1 [.int .i64 (k : Int), .int .i64 ((t : Int) + 1), .int .i64 (it : Int)] (by rfl) (by rfl) (World.news_of_block (cs := #[.int .i64 (k : Int), .int .i64 ((t : Int) + 1), .int .i64 (it : Int)]) (t := 29) (fr := (0, 0)) (heap_alloc_new wq _)) (by simp [Value.oneCell']) (by omega) (by unfold maxLen; omega) (by omega) (by simp; omega) (wq.heap.size + 1) (by simp) ?_; intro gg cp w3 hown1 hgrow hat hlt1; obtain ⟨r0, r1, hBD⟩ := HB'.out.push htn hk14 hit4 hLV.out hM.out (by simp) hown1 hgrow hat; clear hown1 hgrow))
            all_goals
              go_wp2
              obtain ⟨V, R, who, hBD⟩ := hBD.out
              go_roundw
              case rel => exact ⟨j + 1, V, R, who, by omega, by go_num, hBD⟩
              case measure => simp [intOf]; omega
          · have e : j = len := by omega
            have hjn : ¬ ((j : Int) < (len : Int)) := by omega
            have HB : Hid (BD w n j V R who wr) := hB
            clear hB
            go_wp2
            go_meet
            case rel => exact ⟨_, _, _, rfl, HB.out.tx hn4 (by omega), fun i hi => (HB.out.below.cell (p := ⟨0, i, none⟩) hw0).trans (hK i hi), HB.out.below⟩
      · have e : n = 0 := by omega
        subst e
        go_wp2
        go_meet
        case rel => exact ⟨none, fun _ => 0, fun _ _ => (0, 0), rfl, ⟨fun i hi => by omega, fun i q hi => by omega, by omega, fun i hi => by omega⟩, hK, Below.refl _ _⟩
    case rest =>
      obtain ⟨av, cnt, T, rfl, hT, hKc, hBc⟩ := hcut
      clear hF hK
      go_wp2_with fail
      refine (legal_any wc n n av cnt T hT hKc).mono ?_
      rintro _ wl ⟨S, L, who, dom, rfl, hC, hL⟩
      have hlg := hC.lg
      have hl0 := hC.l0
      have HC : Hid (Core wc (.slice av n n) wl S L who dom) := hC
      have HL : Hid (∀ it, (L it).map (fun l => (l.txn, l.hs)) = doneL T cnt it n) := hL
      have HT : Hid (TX wc n av cnt T) := hT
      have HB : Hid (Below w.heap.size w wc) := hBc
      clear hC hL hT hBc hKc
      have hme : ∀ W, (binOp BinOp.eql 32 (Value.map (some wc.heap.size)) (Value.map none)).run Ybad.prog W = .ok (.bool false) W := fun W => run_eql_map_nil W 32 _ _ (some wc.heap.size) Ybad.underlying32
      go_wp2
      go_loopw [90] (fun s90 wr => ∃ (i k : Nat), i ≤ n ∧ s90 = .int .i64 i ∧ wr = wl.drewN k) (fun s90 _ => n - (intOf s90).toNat)
      case atStart => exact ⟨0, 0, by omega, rfl, rfl⟩
      case round =>
        obtain ⟨i, k, hi, rfl, rfl⟩ := hrel
        by_cases hlt : i < n
        · obtain ⟨X, ra, rc, rfl, hrow, _⟩ := HT.out.rows i hlt
          have hX : X < wc.heap.size := World.block_lt_of_cell? wc _ hrow
          have r0 : wl.cell? ⟨X, i, none⟩ = some (.slice ra (cnt i) rc) := (HC.out.below.cell (p := ⟨X, i, none⟩) hX).trans hrow
          have ii : (i : Int) < (n : Int) := by omega
          have ii0 : (0 : Int) ≤ (i : Int) := by omega
          go_wp2
          go_quiet (fail)
          rw [World.drewN_drewN]
          go_wp2
          go_roundw
          case rel => exact ⟨i + 1, k + nq, by omega, by go_num, rfl⟩
          case measure => simp [intOf]; omega
        · have e : i = n := by omega
          have hin : ¬ ((i : Int) < (n : Int)) := by omega
          have B0 : Hid (Below wl.heap.size wl (wl.drewN k)) := (⟨rfl, rfl, rfl, Nat.le_refl _, fun _ _ => rfl⟩ : Below wl.heap.size wl (wl.drewN k))
          generalize wl.drewN k = w2 at B0 ⊢
          clear e hlt hi
          go_wp2
          go_loopw [12, 13] (fun s12 s13 wr => ∃ (it : Nat), it ≤ 4 ∧ s12 = .int .i64 (usedN T cnt n it : Int) ∧ s13 = .int .i64 it ∧ Below wl.heap.size wl wr) (fun _ s13 _ => 4 - (intOf s13).toNat)
          case atStart => exact ⟨0, by omega, rfl, rfl, B0.out⟩
          case round =>
            obtain ⟨it, hit, rfl, rfl, hB⟩ := hrel
            clear B0
            by_cases hlt : it < 4
            · have hi4 : (it : Int) < 4 := by omega
              have hsz := HC.out.size
              have hlg' : wr.cell? ⟨wc.heap.size + 1, 1, none⟩ = some (.map (some wc.heap.size)) := (hB.cell (p := ⟨wc.heap.size + 1, 1, none⟩) (by simp only []; omega)).trans hlg
              have hlk := HC.out.lookAt hB hlt
              obtain ⟨sa, sc, hS⟩ := HC.out.len HL.out it
              rw [hS] at hlk
              have HS : Hid (S it = .slice sa (doneL T cnt it n).length sc) := hS
              have HBr : Hid (Below wl.heap.size wl wr) := hB
              have hu := usedN_le T cnt n it
              clear hS hB
              go_wp2
              go_loopw [15, 120] (fun s15 s120 wr => ∃ (i : Nat), i ≤ n ∧ s15 = .int .i64 ((doneL T cnt it i).length : Int) ∧ s120 = .int .i64 i ∧ Below wl.heap.size wl wr) (fun _ s120 _ => n - (intOf s120).toNat)
              case atStart => exact ⟨0, by omega, rfl, rfl, HBr.out⟩
              case round =>
                obtain ⟨i, hin', rfl, rfl, hB⟩ := hrel
                clear HBr hlk hlg'
                by_cases hil : i < n
                · obtain ⟨X, ra, rc, rfl, hrow, hops⟩ := HT.out.rows i hil
                  have hX : X < wc.heap.size := World.block_lt_of_cell? wc _ hrow
                  have hcl : wc.heap.size ≤ wl.heap.size := HC.out.below.size
                  have r0 : wr.cell? ⟨X, i, none⟩ = some (.slice ra (cnt i) rc) := (hB.cell (p := ⟨X, i, none⟩) (by simp only []; omega)).trans ((HC.out.below.cell (p := ⟨X, i, none⟩) hX).trans hrow)
                  have ii : (i : Int) < (n : Int) := by omega
                  have ii0 : (0 : Int) ≤ (i : Int) := by omega
                  have hcn := HT.out.short i hil
                  have hkk := HT.out.kind i
                  have HK : Hid (∀ q, q < cnt i → (T i q).1 < 14 ∧ (T i q).2 < 4) := fun q hq => hkk q hil hq
                  have hdl := doneL_len T cnt it i
                  have HBr : Hid (Below wl.heap.size wl wr) := hB
                  have HO : Hid (∀ q, q < cnt i → ∃ R t, ra = some ⟨R, 0, none⟩ ∧ wc.cell? ⟨R, q * 3, none⟩ = some (.int .i64 ((T i q).1 : Int)) ∧ wc.cell? ⟨R, q * 3 + 1, none⟩ = some (.int .i64 t) ∧ wc.cell? ⟨R, q * 3 + 2, none⟩ = some (.int .i64 ((T i q).2 : Int))) := hops
                  clear hB hkk hops
                  go_wp2
                  go_loopw [18, 19, 20, 127] (fun s18 s19 s20 s127 wr => ∃ (q : Nat), q ≤ cnt i ∧ s18 = .int .u16 (runH (T i) it q).1 ∧ s19 = .bool (decide ((runH (T i) it q).2 = [])) ∧ s20 = .int .i64 ((runH (T i) it q).2.length : Int) ∧ s127 = .int .i64 q ∧ Below wl.heap.size wl wr) (fun _ _ _ s127 _ => cnt i - (intOf s127).toNat)
                  case atStart => exact ⟨0, by omega, rfl, rfl, rfl, rfl, HBr.out⟩
                  case round =>
                    obtain ⟨q, hq, rfl, rfl, rfl, rfl, hB⟩ := hrel
                    clear HBr r0
                    by_cases hql : q < cnt i
                    · obtain ⟨R, tt, rfl, k0, k1, k2⟩ := HO.out q hql
                      have hR : R < wc.heap.size := World.block_lt_of_cell? wc _ k0
                      have hRl : R < wl.heap.size := by omega
                      have b0 : wr.cell? ⟨R, q * 3, none⟩ = some (.int .i64 ((T i q).1 : Int)) := (hB.cell (p := ⟨R, q * 3, none⟩) hRl).trans ((HC.out.below.cell (p := ⟨R, q * 3, none⟩) hR).trans k0)
                      have b1 : wr.cell? ⟨R, q * 3 + 1, none⟩ = some (.int .i64 tt) := (hB.cell (p := ⟨R, q * 3 + 1, none⟩) hRl).trans ((HC.out.below.cell (p := ⟨R, q * 3 + 1, none⟩) hR).trans k1)
                      have b2 : wr.cell? ⟨R, q * 3 + 2, none⟩ = some (.int .i64 ((T i q).2 : Int)) := (hB.cell (p := ⟨R, q * 3 + 2, none⟩) hRl).trans ((HC.out.below.cell (p := ⟨R, q * 3 + 2, none⟩) hR).trans k2)
                      have qq : (q : Int) < (cnt i : Int) := by omega
                      have qq0 : (0 : Int) ≤ (q : Int) := by omega
                      have hkk := HK.out q hql
                      have HBr : Hid (Below wl.heap.size wl wr) := hB
                      clear hB k0 k1 k2 hrow
                      by_cases hitm : (T i q).2 = it
                      · have hne : (((T i q).2 : Int) == (it : Int)) = true := by simp; omega
                        have HI : Hid ((T i q).2 = it) := hitm
                        clear hitm
                        go_wp2_with fail
                        refine (zzmode_any _ _ hkk.1).mono ?_
                        rintro _ _ ⟨rfl, rfl⟩
                        have HB1 : Hid _ := HBr.out.alloc HBr.out.size (Obj.cells #[Value.int IntKind.i64 ((T i q).1 : Int), Value.int IntKind.i64 tt, Value.int IntKind.i64 ((T i q).2 : Int)] 29)
                        have hOp : Hid (OpAt (wr.alloc (Obj.cells #[Value.int IntKind.i64 ((T i q).1 : Int), Value.int IntKind.i64 tt, Value.int IntKind.i64 ((T i q).2 : Int)] 29)) wr.heap.size (T i q).1 tt (T i q).2) := opAt_new wr (T i q).1 tt (T i q).2
                        clear b0 b1 b2 HBr
                        generalize wr.alloc (Obj.cells #[Value.int IntKind.i64 ((T i q).1 : Int), Value.int IntKind.i64 tt, Value.int IntKind.i64 ((T i q).2 : Int)] 29) = w1 at HB1 hOp ⊢
                        generalize wr.heap.size = P at hOp ⊢
                        clear wr
                        have p0 := hOp.out.c0
                        by_cases hr : rel (T i q).1 = true
                        · have hGo : Hid ((((mode (T i q).1 : Int) == 0) = true ∧ (((T i q).1 : Int) == 10) = true) ∨ ((mode (T i q).1 : Int) == 0) = false) := rel_forms hr
                          have hR : Hid (rel (T i q).1 = true) := hr
                          clear hr
                          dsimp only
                          iterate 8 go_step
                          go_cut [] from 128 to 198 (fun wx => w1 = wx)
                          case first =>
                            rcases hGo.out with ⟨hg1, hg2⟩ | hg1
                            · go_wp2
                              go_meet
                              case rel => rfl
                            · go_wp2
                              go_meet
                              case rel => rfl
                          case rest =>
                            obtain rfl := hcut
                            clear p0
                            have hfin := runH_ne (it := it) hql hR.out HI.out
                            have hget := doneL_get hil hfin
                            obtain ⟨gS, cS, ha, hc, hS, hgl, c0, c1, hhs⟩ := HC.out.lockAt HL.out hget
                            obtain ⟨gh, rfl, hghl, d0, d1⟩ := hhs _ _ (runH_get hql hR.out HI.out)
                            have hsl := HS.out
                            rw [hS] at hsl
                            simp at hsl
                            obtain ⟨rfl, rfl⟩ := hsl
                            have hkl : (doneL T cnt it i).length < (doneL T cnt it n).length := (List.getElem?_eq_some_iff.1 hget).1
                            have hnl : (runH (T i) it q).2.length < (runH (T i) it (cnt i)).2.length := (List.getElem?_eq_some_iff.1 (runH_get hql hR.out HI.out)).1
                            have hnq := runH_len (T i) it q
                            have c0' : w1.cell? ⟨gS, (doneL T cnt it i).length * 2, none⟩ = some (.int .i64 (i : Int)) := (HB1.out.cell (p := ⟨gS, (doneL T cnt it i).length * 2, none⟩) hgl).trans c0
                            have c1' : w1.cell? ⟨gS, (doneL T cnt it i).length * 2 + 1, none⟩ = some (.slice (some ⟨gh, 0, none⟩) (runH (T i) it (cnt i)).2.length hc) := (HB1.out.cell (p := ⟨gS, (doneL T cnt it i).length * 2 + 1, none⟩) hgl).trans c1
                            have d0' : ∀ o, (w1.alloc o).cell? ⟨gh, (runH (T i) it q).2.length * 2, none⟩ = some (.int .i64 ((q + 1 : Nat) : Int)) := fun o => ((HB1.out.alloc HB1.out.size o).cell (p := ⟨gh, (runH (T i) it q).2.length * 2, none⟩) hghl).trans d0
                            have d1' : ∀ o, (w1.alloc o).cell? ⟨gh, (runH (T i) it q).2.length * 2 + 1, none⟩ = some (.int .u16 (heldAfter (runH (T i) it q).1 (T i q).1)) := fun o => ((HB1.out.alloc HB1.out.size o).cell (p := ⟨gh, (runH (T i) it q).2.length * 2 + 1, none⟩) hghl).trans d1
                            have hrh : Hid (runH (T i) it (q + 1) = (heldAfter (runH (T i) it q).1 (T i q).1, (runH (T i) it q).2 ++ [(q + 1, heldAfter (runH (T i) it q).1 (T i q).1)])) := runH_hit hR.out HI.out
                            have kk : ((doneL T cnt it i).length : Int) < ((doneL T cnt it n).length : Int) := by omega
                            have kk0 : (0 : Int) ≤ ((doneL T cnt it i).length : Int) := by omega
                            have nn : ((runH (T i) it q).2.length : Int) < ((runH (T i) it (cnt i)).2.length : Int) := by omega
                            have nn0 : (0 : Int) ≤ ((runH (T i) it q).2.length : Int) := by omega
                            have hm9 := mode_lt _ hkk.1
                            clear hfin hget hS c0 c1 hhs d0 d1 hkl hnl
                            iterate 2 go_step
                            go_cut [19] from 128 to 198 (fun s19 wx => Value.bool false = s19 ∧ w1 = wx)
                            case first =>
                              by_cases hnil : (runH (T i) it q).2 = []
                              · have hd : decide ((runH (T i) it q).2 = []) = true := decide_eq_true hnil
                                rw [hd]
                                clear hd hnil
                                go_wp2
                                go_meet
                                case rel => exact ⟨rfl, rfl⟩
                              · have hd : decide ((runH (T i) it q).2 = []) = false := decide_eq_false hnil
                                rw [hd]
                                clear hd hnil
                                go_wp2
                                go_meet
                                case rel => exact ⟨rfl, rfl⟩
                            case rest =>
                              obtain ⟨rfl, rfl⟩ := hcut
                              iterate 2 go_step
                              go_cut [18] from 128 to 198 (fun s18 wx => Value.int .u16 (heldAfter (runH (T i) it q).1 (T i q).1) = s18 ∧ w1 = wx)
                              case first =>
                                rcases hGo.out with ⟨hg1, hg2⟩ | hg1
                                · have hh0 : Hid (heldAfter (runH (T i) it q).1 (T i q).1 = 0) := heldAfter_zero hg1
                                  go_wp2
                                  go_meet
                                  case rel => exact ⟨by rw [hh0.out], rfl⟩
                                · have hh0 : Hid (heldAfter (runH (T i) it q).1 (T i q).1 = orv (runH (T i) it q).1 (mode (T i q).1)) := heldAfter_or hg1
                                  have m0 : (0 : Int) ≤ (mode (T i q).1 : Int) := by omega
                                  have m1 : (mode (T i q).1 : Int) < 9 := by omega
                                  go_wp2
                                  go_meet
                                  case rel => exact ⟨by rw [hh0.out]; rfl, rfl⟩
                              case rest =>
                                obtain ⟨rfl, rfl⟩ := hcut
                                go_wp2
                                exact ⟨⟨q + 1, by omega, by rw [hrh.out], by rw [hrh.out]; simp, by rw [hrh.out]; simp, by go_num, HB1.out.alloc HB1.out.size _⟩, by simp [intOf]; omega⟩
                        · have hmk : ((mode (T i q).1 : Int) == 0) = true := by
                            simp [rel] at hr
                            simp [hr.1]
                          have hk10 : (((T i q).1 : Int) == 10) = false := by
                            simp [rel] at hr
                            simp; omega
                          have hrm : Hid (runH (T i) it (q + 1) = runH (T i) it q) := runH_miss (.inl (by simpa using hr))
                          clear hr
                          go_wp2
                          exact ⟨⟨q + 1, by omega, by rw [hrm.out], by rw [hrm.out], by rw [hrm.out], by go_num, HB1.out⟩, by simp [intOf]; omega⟩
                      · have hne : (((T i q).2 : Int) == (it : Int)) = false := by simp; omega
                        have hrm : Hid (runH (T i) it (q + 1) = runH (T i) it q) := runH_miss (.inr hitm)
                        clear hitm
                        go_wp2
                        exact ⟨⟨q + 1, by omega, by rw [hrm.out], by rw [hrm.out], by rw [hrm.out], by go_num, HBr.out.alloc HBr.out.size _⟩, by simp [intOf]; omega⟩
                    · have e : q = cnt i := by omega
                      have hqq : ¬ ((q : Int) < (cnt i : Int)) := by omega
                      have HBr : Hid (Below wl.heap.size wl wr) := hB
                      rw [e]
                      by_cases hnil : (runH (T i) it (cnt i)).2 = []
                      · have hd : decide ((runH (T i) it (cnt i)).2 = []) = true := decide_eq_true hnil
                        rw [hd]
                        have hde : Hid ((doneL T cnt it (i + 1)).length = (doneL T cnt it i).length) := doneL_nil hnil
                        clear e hd hB hnil
                        go_wp2
                        exact ⟨⟨i + 1, by omega, by rw [hde.out], by go_num, HBr.out⟩, by simp [intOf]; omega⟩
                      · have hd : decide ((runH (T i) it (cnt i)).2 = []) = false := decide_eq_false hnil
                        rw [hd]
                        have hde : Hid ((doneL T cnt it (i + 1)).length = (doneL T cnt it i).length + 1) := doneL_one hnil
                        have hget := doneL_get hil hnil
                        obtain ⟨gS, cS, ha, hc, hS, hgl, c0, c1, _⟩ := HC.out.lockAt HL.out hget
                        have hsl := HS.out
                        rw [hS] at hsl
                        simp at hsl
                        obtain ⟨rfl, rfl⟩ := hsl
                        have hkl : (doneL T cnt it i).length < (doneL T cnt it n).length := (List.getElem?_eq_some_iff.1 hget).1
                        have c1' : wr.cell? ⟨gS, (doneL T cnt it i).length * 2 + 1, none⟩ = some (.slice ha (runH (T i) it (cnt i)).2.length hc) := (hB.cell (p := ⟨gS, (doneL T cnt it i).length * 2 + 1, none⟩) hgl).trans c1
                        have kk : ((doneL T cnt it i).length : Int) < ((doneL T cnt it n).length : Int) := by omega
                        have kk0 : (0 : Int) ≤ ((doneL T cnt it i).length : Int) := by omega
                        clear e hd hB hnil hget c0 c1 hS hkl
                        go_wp2
                        exact ⟨⟨i + 1, by omega, by rw [hde.out]; go_num, by go_num, HBr.out⟩, by simp [intOf]; omega⟩
                · have e : i = n := by omega
                  have hii : ¬ ((i : Int) < (n : Int)) := by omega
                  have HBr : Hid (Below wl.heap.size wl wr) := hB
                  clear hB
                  rw [e]
                  by_cases hpos : 0 < (doneL T cnt it n).length
                  · have hp : (0 : Int) < ((doneL T cnt it n).length : Int) := by omega
                    have hue : usedN T cnt n (it + 1) = usedN T cnt n it + 1 := by simp only [usedN]; rw [if_pos hpos]
                    clear e
                    go_wp2
                    exact ⟨⟨it + 1, by omega, by rw [hue]; go_num, by go_num, HBr.out⟩, by simp [intOf]; omega⟩
                  · have hp : (doneL T cnt it n).length = 0 := by omega
                    have hue : usedN T cnt n (it + 1) = usedN T cnt n it := by simp only [usedN]; rw [if_neg hpos]
                    clear e hpos
                    rw [hp]
                    rw [hp] at HS
                    go_wp2
                    exact ⟨⟨it + 1, by omega, by rw [hue], by go_num, HBr.out⟩, by simp [intOf]; omega⟩
            · have e : it = 4 := by omega
              subst e
              have hsz := HC.out.size
              have hlg' : wr.cell? ⟨wc.heap.size + 1, 1, none⟩ = some (.map (some wc.heap.size)) := (hB.cell (p := ⟨wc.heap.size + 1, 1, none⟩) (by simp only []; omega)).trans hlg
              obtain ⟨es, cl, hes, hel⟩ := (HC.out.mp.of_block (hB.block _ HC.out.mp.lt)).size
              have hun := used_dom HC.out.nodup HC.out.md HL.out
              rw [hun] at hel
              have hfin : Hid (Below w.heap.size w wr) := below_chain HB.out HC.out.below hB
              have hln : (Builtin.len_ #[32] 3 #[Value.map (some wc.heap.size)]).run Ybad.prog wr = .ok (.int .i64 (usedN T cnt n 4 : Int)) wr := map_len hes hel
              clear hB hun hes hel
              go_wp2
              go_ret
              exact ⟨rfl, hfin.out⟩
end Go.Proofs.YbulkcgnkDoor
