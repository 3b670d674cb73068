import Derived.Test.YbulkcgnkNew
namespace Go.Proofs.Ybulkcgnk
open Go.RowKit
attribute [local go_sem ↓] Go.wp_at_zero Go.wp_at_succ

theorem g_cell {B G n : Nat} {W : World} {P : Nat → Nat} {V : Nat → Value} {A : Nat → List Nat} (h : GS B G W n P V A) : W.cell? ⟨G, 0, none⟩ = some (.int .i64 (n : Int)) ∧ W.cell? ⟨G, 1, none⟩ = some (V 0) ∧ W.cell? ⟨G, 2, none⟩ = some (V 1) ∧ ∀ i, W.frozen? ⟨G, i, none⟩ = false := by
  refine ⟨?_, ?_, ?_, fun i => ?_⟩
  · rw [cell_of_row _ _ _ _ _ _ h.g]; rfl
  · rw [cell_of_row _ _ _ _ _ _ h.g]; rfl
  · rw [cell_of_row _ _ _ _ _ _ h.g]; rfl
  · simp [World.frozen?, h.g]

theorem g_cell_of {G : Nat} {W : World} {a b c : Value} (h : W.heap[G]? = some (.cells #[a, b, c] 39 (0, 0))) : W.cell? ⟨G, 0, none⟩ = some a ∧ W.cell? ⟨G, 1, none⟩ = some b ∧ W.cell? ⟨G, 2, none⟩ = some c ∧ ∀ i, W.frozen? ⟨G, i, none⟩ = false := by
  refine ⟨?_, ?_, ?_, fun i => ?_⟩
  · rw [cell_of_row _ _ _ _ _ _ h]; rfl
  · rw [cell_of_row _ _ _ _ _ _ h]; rfl
  · rw [cell_of_row _ _ _ _ _ _ h]; rfl
  · simp [World.frozen?, h]

theorem cell_one_at {w : World} {x : Value} {t : TypeId} {N : Nat} (h : w.heap.size = N) : ∀ j u, [x][j]? = some u → (w.alloc (.cells #[x] t)).cell? ((⟨N, 0, none⟩ : Addr).add j) = some u := by
  subst h; exact cell_one_new _ _ _
/-- Behind the append onto a side's table. -/
theorem j_mid {B G n s g c H : Nat} {w W w1 : World} {o : Obj} {P : Nat → Nat} {V : Nat → Value} {A : Nat → List Nat} (h : GS B G W n P V A) (hB : Below B w W) (hs : s < 2)
    (ho : w1.ownsRow B 25 1 (.slice (some ⟨g, 0, none⟩) (P s + 1) c) (P s + 1) (((List.range (P s)).map fun x => V (4 + 2 * x + s)) ++ [.slice none 0 0])) (hg : (W.alloc o).grownBy w1 (V s).ownBlock) (hat : (V s).ownBlock = some g ∨ g = H) (hH : W.heap.size + 1 = H) :
    w1.cell? ⟨G, 1, none⟩ = some (V 0) ∧ w1.cell? ⟨G, 2, none⟩ = some (V 1) ∧ w1.frozen? ⟨G, 1, none⟩ = false ∧ w1.frozen? ⟨G, 2, none⟩ = false ∧
    Hid (GS B G (w1.setCell ⟨G, 1 + s, none⟩ (.slice (some ⟨g, 0, none⟩) (P s + 1) c)) n (updN P s (P s + 1)) (updN V s (.slice (some ⟨g, 0, none⟩) (P s + 1) c)) A ∧ Below B w (w1.setCell ⟨G, 1 + s, none⟩ (.slice (some ⟨g, 0, none⟩) (P s + 1) c))) := by
  have h' := h.alloc o
  have hG := h'.gkeep hg
  obtain ⟨c0, c1, c2, cf⟩ := g_cell_of hG
  have hBG : B ≤ W.heap.size := Nat.le_trans h.base (Nat.le_of_lt h.glt)
  have hb1 : Below B w (W.alloc o) := hB.alloc hBG o
  have hb2 : Below B w w1 := ⟨hg.os.trans hb1.os, hg.tape.trans hb1.tape, hg.output.trans hb1.output, Nat.le_trans hb1.size hg.size, fun k hk => (hg.block k (by simp; omega) (fun e => by have := (h'.lt s k e.symm).1; omega)).trans (hb1.block k hk)⟩
  exact ⟨c1, c2, cf 1, cf 2, h'.junction hs (by simpa using hH) ho hg hat, hb2.setCell h.base _⟩

theorem GS.top1 {B G n p q : Nat} {W : World} {v : Value} {V : Nat → Value} {A : Nat → List Nat} (h : GS B G W n (updN (fun _ => p) 0 q) (updN V 0 v) A) : W.ownsRow B 25 1 (V 1) p ((List.range p).map fun x => V (4 + 2 * x + 1)) := by
  have := h.top 1 (by omega)
  have e : ∀ x, updN V 0 v (4 + 2 * x + 1) = V (4 + 2 * x + 1) := fun x => updN_other _ _ (by omega)
  simp only [e] at this
  exact this
theorem j_end {B G n p g c H : Nat} {v : Value} {w W w1 : World} {o : Obj} {V : Nat → Value} {A : Nat → List Nat} (h : GS B G W n (updN (fun _ => p) 0 (p + 1)) (updN V 0 v) A) (hB : Below B w W)
    (ho : w1.ownsRow B 25 1 (.slice (some ⟨g, 0, none⟩) (p + 1) c) (p + 1) (((List.range p).map fun x => V (4 + 2 * x + 1)) ++ [.slice none 0 0])) (hg : (W.alloc o).grownBy w1 (V 1).ownBlock) (hat : (V 1).ownBlock = some g ∨ g = H) (hH : W.heap.size + 1 = H) :
    w1.cell? ⟨G, 1, none⟩ = some v ∧ w1.cell? ⟨G, 2, none⟩ = some (V 1) ∧ w1.frozen? ⟨G, 1, none⟩ = false ∧ w1.frozen? ⟨G, 2, none⟩ = false ∧
    Hid ((∃ V', GS B G (w1.setCell ⟨G, 2, none⟩ (.slice (some ⟨g, 0, none⟩) (p + 1) c)) n (fun _ => p + 1) V' A ∧ V' 2 = V 2 ∧ V' 3 = V 3) ∧ Below B w (w1.setCell ⟨G, 2, none⟩ (.slice (some ⟨g, 0, none⟩) (p + 1) c))) := by
  have e : ∀ x, updN V 0 v (4 + 2 * x + 1) = V (4 + 2 * x + 1) := fun x => updN_other _ _ (by omega)
  obtain ⟨a1, a2, a3, a4, a5⟩ := j_mid (s := 1) (g := g) (c := c) (o := o) h hB (by omega) (by simp only [e]; exact ho) hg hat hH
  refine ⟨a1, a2, a3, a4, ⟨_, a5.out.1.congrP ?_, rfl, rfl⟩, a5.out.2⟩
  intro s hs
  have hs2 : s = 0 ∨ s = 1 := by omega
  rcases hs2 with rfl | rfl <;> rfl

set_option maxHeartbeats 1000000 in
theorem junction_any (w : World) (B G n p : Nat) (V : Nat → Value) (A : Nat → List Nat) (h : GS B G w n (fun _ => p) V A) (hp : p ≤ 512) :
    Calls Yba.prog 9 #[.pointer (some ⟨G, 0, none⟩)] w fun e w' =>
      e = .returned (.int .i64 (p : Int)) ∧ (∃ V', GS B G w' n (fun _ => p + 1) V' A ∧ V' 2 = V 2 ∧ V' 3 = V 3) ∧ Below B w w' := by
  obtain ⟨i25, hi25, hz25, hs25, hb25⟩ := info_parts info25
  obtain ⟨-, h1, h2, hf⟩ := g_cell h
  have hf1 := hf 1
  have hf2 := hf 2
  have HG : Hid (GS B G w n (fun _ => p) V A) := h
  have hBw : B ≤ w.heap.size := Nat.le_trans h.base (Nat.le_of_lt h.glt)
  have hws : IntKind.i64.wrap ((p : Int) + 1 - 1) = (p : Int) := by rw [IntKind.wrap_i64]; omega
  clear h hf
  go_enter Yba.func9, Yba.ntmps9
  go_wp2_with (first
    | (at_builtin; refine wpList_append_lies _ rfl (.tmp 7) (.tmp 8) 37 rfl B 25 i25 (.slice none 0 0) 1 24 Yba.underlying37 hi25 hz25 hs25 hb25 rfl (by decide) (V 0) _ _ rfl ((HG.out.alloc _).top 0 (by omega)) ⟨w.heap.size, 0, none⟩ 1 1 [.slice none 0 0] rfl rfl (cell_one_new _ _ _) (by simp [Value.oneCell']) (by omega) (by unfold maxLen; omega) (by omega) (by simp; omega) (w.heap.size + 1) (by simp) ?_; intro g1 c1 w1 hown1 hgrow1 hat1 hlt1; have hBw1 : B ≤ w1.heap.size := Nat.le_trans hBw (Nat.le_trans (by simp) hgrow1.size); obtain ⟨x1, x2, x3, x4, HJ⟩ := j_mid HG.out (Below.refl _ _) (by omega) hown1 hgrow1 hat1 rfl; clear h1 h2 hf1 hf2 HG hown1 hgrow1 hat1)
    | (at_builtin; refine wpList_append_lies _ rfl (.tmp 16) (.tmp 17) 37 rfl B 25 i25 (.slice none 0 0) 1 24 Yba.underlying37 hi25 hz25 hs25 hb25 rfl (by decide) (V 1) _ _ rfl (HJ.out.1.alloc _).top1 ⟨w1.heap.size, 0, none⟩ 1 1 [.slice none 0 0] rfl rfl (cell_one_at (by simp)) (by simp [Value.oneCell']) (by omega) (by unfold maxLen; omega) (by omega) (by simp; omega) (w1.heap.size + 1) (by simp) ?_; intro g2 c2 w2 hown2 hgrow2 hat2 hlt2; obtain ⟨y1, y2, y3, y4, HK⟩ := j_end HJ.out.1 HJ.out.2 hown2 hgrow2 hat2 (by simp); clear x1 x2 x3 x4 HJ hown2 hgrow2 hat2))
  go_ret
  exact ⟨rfl, HK.out⟩

theorem GS.drew {B G n : Nat} {W : World} {P : Nat → Nat} {V : Nat → Value} {A : Nat → List Nat} (h : GS B G W n P V A) : GS B G W.drew n P V A := h.frame fun _ _ _ => rfl
theorem cell_alloc_some {W : World} {a : Addr} {v : Value} {o : Obj} (h : W.cell? a = some v) : (W.alloc o).cell? a = some v :=
  (World.cell?_of_block (Below.heap_alloc _ _ _ (World.block_lt_of_cell? W _ h))).trans h
/-- Behind the append onto a point's row. -/
theorem e_mid {B G n p s x y g c H gs cs L t : Nat} {w W w1 : World} {vt : Value} {V : Nat → Value} {A : Nat → List Nat} (h : GS B G W n (fun _ => p) V A) (hB : Below B w W) (hs : s < 2) (hx : x < p) (hV : V s = .slice (some ⟨gs, 0, none⟩) p cs) (ht : t = 4 + 2 * x + s) (hv : vt = V t) (hL : (A t).length = L)
    (ho : w1.ownsRow B 3 1 (.slice (some ⟨g, 0, none⟩) (L + 1) c) (L + 1) (vals (A t) ++ [.int .i64 (y : Int)])) (hg : W.grownBy w1 vt.ownBlock) (hat : vt.ownBlock = some g ∨ g = H) (hH : W.heap.size = H) :
    w1.cell? ⟨G, 1, none⟩ = some (V 0) ∧ w1.cell? ⟨G, 2, none⟩ = some (V 1) ∧ w1.cell? ⟨gs, x, none⟩ = some (V t) ∧ w1.frozen? ⟨gs, x, none⟩ = false ∧
    Hid (GS B G (w1.setCell ⟨gs, x, none⟩ (.slice (some ⟨g, 0, none⟩) (L + 1) c)) n (fun _ => p) (updN V t (.slice (some ⟨g, 0, none⟩) (L + 1) c)) (updN A t (A t ++ [y])) ∧
      Below B w (w1.setCell ⟨gs, x, none⟩ (.slice (some ⟨g, 0, none⟩) (L + 1) c))) := by
  subst ht hv hL
  obtain ⟨c0, c1, c2, cf⟩ := g_cell_of (h.gkeep hg)
  have hBG : B ≤ W.heap.size := Nat.le_trans h.base (Nat.le_of_lt h.glt)
  have hb2 : Below B w w1 := ⟨hg.os.trans hB.os, hg.tape.trans hB.tape, hg.output.trans hB.output, Nat.le_trans hB.size hg.size, fun k hk => (hg.block k (by omega) (fun e => by have := (h.lt _ k e.symm).1; omega)).trans (hB.block k hk)⟩
  have hSb : (V s).ownBlock = some gs := by rw [hV]; rfl
  obtain ⟨g', c', e, hb, hlt, hcell, hfr⟩ := h.topForm hs (by omega : 0 < p)
  rw [hV] at e
  simp at e
  obtain ⟨rfl, rfl⟩ := e
  have hne : some gs ≠ (V (4 + 2 * x + s)).ownBlock := fun e => by have := h.inj _ _ gs hSb e.symm; omega
  refine ⟨c1, c2, (hg.cell_far ⟨gs, x, none⟩ hlt hne).trans (hcell x hx), (hg.frozen_far ⟨gs, x, none⟩ hlt hne).trans (hfr x), ?_, hb2.setCell hb _⟩
  exact h.edge hs hx hV hH ho hg hat
/-- What an edge's end finds. -/
theorem e_pre {B G n p s x t : Nat} {w : World} {V : Nat → Value} {A : Nat → List Nat} (h : GS B G w n (fun _ => p) V A) (hs : s < 2) (hx : x < p) (ht : t = 4 + 2 * x + s) :
    ∃ gs cs vt L, Hid (V s = .slice (some ⟨gs, 0, none⟩) p cs) ∧ Hid (vt = V t) ∧ Hid ((A t).length = L) ∧ w.cell? ⟨gs, x, none⟩ = some vt ∧ w.frozen? ⟨gs, x, none⟩ = false ∧ Hid (w.ownsRow B 3 1 vt L (vals (A t))) := by
  subst ht
  obtain ⟨gs, cs, hV, -, -, hc, hf⟩ := h.topForm hs (by omega : 0 < p)
  exact ⟨gs, cs, _, _, hV, rfl, rfl, hc x hx, hf x, h.row _ (by omega)⟩

set_option maxHeartbeats 4000000 in
theorem edge_any (w : World) (B G n p a b ta tb : Nat) (V : Nat → Value) (A : Nat → List Nat) (h : GS B G w n (fun _ => p) V A) (ha : a < p) (hb : b < p) (hta : ta = 4 + 2 * a + 0) (htb : tb = 4 + 2 * b + 1) (hla : (A ta).length ≤ 2000) (hlb : (A tb).length ≤ 2000) :
    Calls Yba.prog 10 #[.pointer (some ⟨G, 0, none⟩), .int .i64 (a : Int), .int .i64 (b : Int)] w fun e w' =>
      e = .returned (.tuple #[]) ∧ (∃ v1 v2, GS B G w' n (fun _ => p) (updN (updN V ta v1) tb v2) (updN (updN A ta (A ta ++ [b])) tb (A tb ++ [a]))) ∧ Below B w w' := by
  obtain ⟨i3, hi3, hz3, hs3, hb3⟩ := info_parts info3
  have HG : Hid (GS B G w n (fun _ => p) V A) := h
  have ia : (a : Int) < (p : Int) := by omega
  have ib : (b : Int) < (p : Int) := by omega
  have ia0 : (0 : Int) ≤ (a : Int) := by omega
  have ib0 : (0 : Int) ≤ (b : Int) := by omega
  have HT : Hid (ta = 4 + 2 * a + 0 ∧ tb = 4 + 2 * b + 1) := ⟨hta, htb⟩
  have hne : tb ≠ ta := by omega
  clear h hta htb
  go_enter Yba.func10, Yba.ntmps10
  go_upto_region 0 with fail
  go_cut [] from 6 to 37 (fun wx => Hid (∃ v1, GS B G wx n (fun _ => p) (updN V ta v1) (updN A ta (A ta ++ [b])) ∧ Below B w wx))
  case first =>
    obtain ⟨gs, cs, vt, L, HV, HVT, HL, hc, hf, HO⟩ := e_pre HG.out (by omega : 0 < 2) ha HT.out.1
    obtain ⟨-, h1, -, -⟩ := g_cell HG.out
    rw [HV.out] at h1
    have hL2 : L ≤ 2000 := HL.out ▸ hla
    have hc' := fun o => cell_alloc_some (o := o) hc
    have h1' := fun o => cell_alloc_some (o := o) h1
    have hBw : B ≤ w.heap.size := Nat.le_trans HG.out.base (Nat.le_of_lt HG.out.glt)
    go_region_law ((refine step_append_lies _ (by rfl) (.tmp 17) (.tmp 19) 25 (by rfl) B 3 i3 (.int .i64 0) 1 8 Yba.underlying25 hi3 hz3 hs3 hb3 rfl (by decide) vt L (vals (A ta)) (by rfl) ((HO.out.alloc _).drew) ⟨w.heap.size, 0, none⟩ 1 1 [.int .i64 (b : Int)] (by rfl) (by rfl) (World.news_of_block (cs := #[.int .i64 (b : Int)]) (t := 3) (fr := (0, 0)) (heap_alloc_new w _)) (by simp [Value.oneCell']) (by omega) (by unfold maxLen; omega) (by omega) (by simp; omega) (w.heap.size + 1) (by simp) ?_; intro g2 cc w1 hown1 hgrow1 hat1 hlt1; obtain ⟨x1, x2, x3, x4, HE⟩ := e_mid (HG.out.alloc _).drew ((Below.refl B w).alloc hBw _).drew (by omega) ha HV.out HT.out.1 HVT.out HL.out hown1 hgrow1 hat1 (by simp); rw [HV.out] at x1; clear hown1 hgrow1 hat1))
    all_goals
      go_wp2
      go_meet
      exact ⟨_, HE.out⟩
  case rest =>
    obtain ⟨v1, HG1', HB1'⟩ := hcut.out
    have HG1 : Hid (GS B G wc n (fun _ => p) (updN V ta v1) (updN A ta (A ta ++ [b]))) := HG1'
    have HB1 : Hid (Below B w wc) := HB1'
    clear HG1' HB1' hcut
    obtain ⟨gs, cs, vt, L, HV, HVT, HL, hc, hf, HO⟩ := e_pre HG1.out (by omega : 1 < 2) hb HT.out.2
    obtain ⟨-, -, h1, -⟩ := g_cell HG1.out
    rw [HV.out] at h1
    have hL2 : L ≤ 2000 := by have := HL.out; rw [updN_other _ _ hne] at this; omega
    have hc' := fun o => cell_alloc_some (o := o) hc
    have h1' := fun o => cell_alloc_some (o := o) h1
    have hBw : B ≤ wc.heap.size := Nat.le_trans HG1.out.base (Nat.le_of_lt HG1.out.glt)
    have hAA : Hid (updN A ta (A ta ++ [b]) tb = A tb) := updN_other _ _ hne
    go_wp2
    go_region_law ((refine step_append_lies _ (by rfl) (.tmp 33) (.tmp 35) 25 (by rfl) B 3 i3 (.int .i64 0) 1 8 Yba.underlying25 hi3 hz3 hs3 hb3 rfl (by decide) vt L (vals (updN A ta (A ta ++ [b]) tb)) (by rfl) ((HO.out.alloc _).drew) ⟨wc.heap.size, 0, none⟩ 1 1 [.int .i64 (a : Int)] (by rfl) (by rfl) (World.news_of_block (cs := #[.int .i64 (a : Int)]) (t := 3) (fr := (0, 0)) (heap_alloc_new wc _)) (by simp [Value.oneCell']) (by omega) (by unfold maxLen; omega) (by omega) (by simp; omega) (wc.heap.size + 1) (by simp) ?_; intro g2 cc w1 hown1 hgrow1 hat1 hlt1; obtain ⟨x1, x2, x3, x4, HE⟩ := e_mid (HG1.out.alloc _).drew (HB1.out.alloc hBw _).drew (by omega) hb HV.out HT.out.2 HVT.out HL.out hown1 hgrow1 hat1 (by simp); rw [HV.out] at x2; clear hown1 hgrow1 hat1))
    all_goals
      go_wp2
      refine bodyPost_end (results_none rfl _ _ _) rfl ?_
      have h9 := HE.out.1
      rw [hAA.out] at h9
      exact ⟨rfl, ⟨_, _, h9⟩, HE.out.2⟩
end Go.Proofs.Ybulkcgnk
