import Derived.Test.YbulkcgxcNl
namespace Go.Proofs.Ybulkcgxc
open Go.RowKit

/-- What a repeat answers. -/
def repR (mx n : Int) (ok : Bool) : Int × Bool := if ok = false ∨ n = 0 then (0, ok) else if mx < 0 then (0, false) else (IntKind.i64.wrap (mx * n), decide (IntKind.i64.wrap (mx * n) ≤ 8))
/-- OpRepeat. -/
theorem nl_rep {B : Nat} {w : World} {P Q : Nat} {sub rune : Value} {mx n : Int} {ok : Bool} (h : Nd B w P 17 sub rune mx) (hk : Kid B w sub Q) (hq : NLS B w Q n ok) : NLS B w P (repR mx n ok).1 (repR mx n ok).2 := by
  intro w' hb
  have hn := h.keep hb
  have c0 := hn.op
  have c2 := hn.sub
  have c8 := hn.mx
  obtain ⟨b, c, hBb, rfl, k0⟩ := hk
  have k1 := cell_keep (a := ⟨b, 0, none⟩) hb hBb k0
  have HC := hide (hq w' hb)
  clear hn h hb k0 hq
  rcases (show ok = false ∨ (ok = true ∧ n = 0) ∨ (ok = true ∧ ¬ n = 0) from by cases ok <;> simp; exact Decidable.em _) with rfl | ⟨rfl, rfl⟩ | ⟨rfl, hn⟩
  · have e : repR mx n false = (0, false) := by simp [repR]
    rw [e]
    clear e
    go_enter Yba.func6, Yba.ntmps6
    go_wp2_with (go_at_call 6; refine HC.out.mono ?_; rintro _ w9 ⟨rfl, h9⟩; rw [h9]; clear h9)
    go_ret2
    exact ⟨rfl, rfl⟩
  · have e : repR mx 0 true = (0, true) := by simp [repR]
    rw [e]
    clear e
    go_enter Yba.func6, Yba.ntmps6
    go_wp2_with (go_at_call 6; refine HC.out.mono ?_; rintro _ w9 ⟨rfl, h9⟩; rw [h9]; clear h9)
    go_ret2
    exact ⟨rfl, rfl⟩
  · have e1 : (n == 0) = false := by simpa using hn
    by_cases hm : mx < 0
    · have e : repR mx n true = (0, false) := by simp [repR, hn, hm]
      rw [e]
      clear e
      go_enter Yba.func6, Yba.ntmps6
      go_wp2_with (go_at_call 6; refine HC.out.mono ?_; rintro _ w9 ⟨rfl, h9⟩; rw [h9]; clear h9)
      go_ret2
      exact ⟨rfl, rfl⟩
    · have e : repR mx n true = (IntKind.i64.wrap (mx * n), decide (IntKind.i64.wrap (mx * n) ≤ 8)) := by simp [repR, hn, hm]
      rw [e]
      have e2 : decide (mx < 0) = false := by simpa using hm
      obtain ⟨p, hp⟩ : ∃ p, IntKind.i64.wrap (mx * n) = p := ⟨_, rfl⟩
      rw [hp]
      clear e
      go_enter Yba.func6, Yba.ntmps6
      go_wp2_with (go_at_call 6; refine HC.out.mono ?_; rintro _ w9 ⟨rfl, h9⟩; rw [h9]; clear h9)
      go_ret2
      exact ⟨rfl, rfl⟩

/-- A row of runes. -/
def RC (B : Nat) (w : World) (ra : Option Addr) (rl : Nat) (z : Nat → Int) : Prop := ∀ j, j < rl → ∃ b, B ≤ b ∧ ra = some ⟨b, 0, none⟩ ∧ w.cell? ⟨b, j, none⟩ = some (.int .i32 (z j))
theorem RC.keep {B : Nat} {w w' : World} {ra : Option Addr} {rl : Nat} {z : Nat → Int} (h : RC B w ra rl z) (hb : Kp B w w') : RC B w' ra rl z := fun j hj => by
  obtain ⟨b, hB, e, hc⟩ := h j hj
  exact ⟨b, hB, e, cell_keep (a := ⟨b, j, none⟩) hb hB hc⟩
/-- The newlines among the first k. -/
def cnt (z : Nat → Int) : Nat → Nat
  | 0 => 0
  | k + 1 => cnt z k + if z k = 10 then 1 else 0
theorem cnt_le (z : Nat → Int) : ∀ k, cnt z k ≤ k
  | 0 => by simp [cnt]
  | k + 1 => by have := cnt_le z k; simp only [cnt]; split <;> omega
/-- OpLiteral. -/
theorem nl_lit {B : Nat} {w : World} {P rl rc : Nat} {ra : Option Addr} {sub : Value} {mx : Int} {z : Nat → Int} (h : Nd B w P 3 sub (.slice ra rl rc) mx) (hz : RC B w ra rl z) (hl : rl ≤ 1024) : NLS B w P (cnt z rl : Int) (decide ((cnt z rl : Int) ≤ 8)) := by
  intro w' hb
  have hn := h.keep hb
  have c0 := hn.op
  have c4 := hn.rune
  have HZ := hide (hz.keep hb)
  have hcl := cnt_le z rl
  clear hn h hb hz
  go_enter Yba.func6, Yba.ntmps6
  go_wp2
  go_loopw [4, 28] (fun s4 s28 wr => w' = wr ∧ ∃ k : Nat, k ≤ rl ∧ s28 = .int .i64 k ∧ s4 = .int .i64 (cnt z k : Int)) (fun _ s28 _ => rl - (intOf s28).toNat)
  case atStart => exact ⟨rfl, 0, by omega, rfl, rfl⟩
  case round =>
    obtain ⟨rfl, k, hk, rfl, rfl⟩ := hrel
    by_cases hkl : k < rl
    · obtain ⟨b, -, rfl, r0⟩ := HZ.out k hkl
      have kk : (k : Int) < (rl : Int) := by omega
      have kk0 : (0 : Int) ≤ (k : Int) := by omega
      have hck := cnt_le z k
      have hwk : IntKind.i64.wrap ((k : Int) + 1) = (k : Int) + 1 := by rw [IntKind.wrap_i64]; omega
      have hwc : IntKind.i64.wrap ((cnt z k : Int) + 1) = (cnt z k : Int) + 1 := by rw [IntKind.wrap_i64]; omega
      by_cases h10 : z k = 10
      · have HE : Hid (cnt z (k + 1) = cnt z k + 1) := by simp [Hid, cnt, h10]
        rw [h10] at r0
        go_wp2
        exact ⟨⟨trivial, k + 1, by omega, by go_num, by rw [HE.out]; go_num⟩, by simp [intOf]; omega⟩
      · have HE : Hid (cnt z (k + 1) = cnt z k) := by simp [Hid, cnt, h10]
        have e1 : (z k == 10) = false := by simpa using h10
        go_wp2
        exact ⟨⟨trivial, k + 1, by omega, by go_num, by rw [HE.out]⟩, by simp [intOf]; omega⟩
    · have e : rl = k := by omega
      subst e
      go_wp2
      go_ret2
      exact ⟨rfl, rfl⟩

/-- Does a pair among the first k hold the newline? -/
def cls (z : Nat → Int) : Nat → Int
  | 0 => 0
  | k + 1 => if z (2 * k) ≤ 10 ∧ 10 ≤ z (2 * k + 1) then 1 else cls z k
theorem cls_le (z : Nat → Int) : ∀ k, cls z k ≤ 8
  | 0 => by simp [cls]
  | k + 1 => by have := cls_le z k; simp only [cls]; split <;> omega
/-- OpCharClass. -/
theorem nl_class {B : Nat} {w : World} {P kl rl rc : Nat} {ra : Option Addr} {sub : Value} {mx : Int} {z : Nat → Int} (h : Nd B w P 4 sub (.slice ra rl rc) mx) (hz : RC B w ra rl z) (hrl : 2 * kl = rl) (hl : kl ≤ 1024) : NLS B w P (cls z kl) true := by
  intro w' hb
  have hn := h.keep hb
  have c0 := hn.op
  have c4 := hn.rune
  have HZ := hide (hz.keep hb)
  have hcl := cls_le z kl
  have HRL := hide hrl
  clear hn h hb hz hrl
  go_enter Yba.func6, Yba.ntmps6
  go_wp2
  go_loopw [4, 7] (fun s4 s7 wr => w' = wr ∧ ∃ k : Nat, k ≤ kl ∧ s7 = .int .i64 (2 * k : Nat) ∧ s4 = .int .i64 (cls z k)) (fun _ s7 _ => rl - (intOf s7).toNat)
  case atStart => exact ⟨rfl, 0, by omega, rfl, rfl⟩
  case round =>
    obtain ⟨rfl, k, hk, rfl, rfl⟩ := hrel
    obtain ⟨t, ht⟩ : ∃ t, 2 * k = t := ⟨_, rfl⟩
    rw [ht]
    have hrl := HRL.out
    by_cases hkl : k < kl
    · obtain ⟨b, -, rfl, r0⟩ := HZ.out (2 * k) (by omega)
      obtain ⟨b', -, e', r1⟩ := HZ.out (2 * k + 1) (by omega)
      simp at e'
      subst e'
      rw [ht] at r0 r1
      have kk : (t : Int) < (rl : Int) := by omega
      have kk1 : (t : Int) + 1 < (rl : Int) := by omega
      have kk0 : (0 : Int) ≤ (t : Int) := by omega
      have kk2 : (0 : Int) ≤ (t : Int) + 1 := by omega
      have hwk : IntKind.i64.wrap ((t : Int) + 1) = (t : Int) + 1 := by rw [IntKind.wrap_i64]; omega
      have hwk2 : IntKind.i64.wrap ((t : Int) + 2) = (t : Int) + 2 := by rw [IntKind.wrap_i64]; omega
      obtain ⟨x, hx⟩ : ∃ x, z t = x := ⟨_, rfl⟩
      obtain ⟨y, hy⟩ : ∃ y, z (t + 1) = y := ⟨_, rfl⟩
      rw [hx] at r0
      rw [hy] at r1
      have HE : Hid (cls z (k + 1) = if x ≤ 10 ∧ 10 ≤ y then 1 else cls z k) := by
        show cls z (k + 1) = _
        rw [← hx, ← hy, ← ht]; rfl
      have HT := hide ht
      clear hx hy ht hrl
      rcases (show (¬ x ≤ 10) ∨ (x ≤ 10 ∧ ¬ 10 ≤ y) ∨ (x ≤ 10 ∧ 10 ≤ y) from by omega) with h1 | ⟨h1, h2⟩ | ⟨h1, h2⟩
      · have e1 : decide (x ≤ 10) = false := by simpa using h1
        go_wp2
        exact ⟨⟨trivial, k + 1, by omega, by have := HT.out; go_num, by rw [HE.out, if_neg (by omega)]⟩, by simp [intOf]; omega⟩
      · have e2 : decide (10 ≤ y) = false := by simpa using h2
        go_wp2
        exact ⟨⟨trivial, k + 1, by omega, by have := HT.out; go_num, by rw [HE.out, if_neg (by omega)]⟩, by simp [intOf]; omega⟩
      · go_wp2
        exact ⟨⟨trivial, k + 1, by omega, by have := HT.out; go_num, by rw [HE.out, if_pos (by omega)]⟩, by simp [intOf]; omega⟩
    · have e : kl = k := by omega
      subst e
      have e3 : decide (t < rl) = false := by simp; omega
      clear ht hrl
      go_wp2
      go_ret2
      exact ⟨rfl, rfl⟩

/-- What a concatenation (cat) or an alternation makes of the first k answers; none: one of them refused. -/
def comb (cat : Bool) (a b : Int) : Int := if cat then IntKind.i64.wrap (a + b) else if a < b then b else a
def runT (cat : Bool) (L : Nat → Int × Bool) : Nat → Option Int
  | 0 => some 0
  | k + 1 => match runT cat L k with
    | some a => if (L k).2 then some (comb cat a (L k).1) else none
    | none => none
def joinR (cat : Bool) (L : Nat → Int × Bool) (m : Nat) : Int × Bool := match runT cat L m with
  | some a => (a, decide (a ≤ 8))
  | none => (0, false)
theorem runT_none {cat : Bool} {L : Nat → Int × Bool} {k : Nat} (h : runT cat L k = none) : ∀ m, k ≤ m → runT cat L m = none := by
  intro m hm
  induction m with
  | zero => have : k = 0 := by omega
            subst this; exact h
  | succ m ih =>
    by_cases e : k = m + 1
    · subst e; exact h
    · simp only [runT, ih (by omega)]
/-- The kids of a join. -/
def Kids (B : Nat) (w : World) (sa : Option Addr) (m : Nat) (Q : Nat → Nat) : Prop := ∀ j, j < m → ∃ b, B ≤ b ∧ sa = some ⟨b, 0, none⟩ ∧ w.cell? ⟨b, j, none⟩ = some (.pointer (some ⟨Q j, 0, none⟩))
/-- OpConcat. -/
theorem nl_cat {B : Nat} {w : World} {P m sc : Nat} {sa : Option Addr} {rune : Value} {mx : Int} {Q : Nat → Nat} {L : Nat → Int × Bool} (h : Nd B w P 18 (.slice sa m sc) rune mx) (hk : Kids B w sa m Q) (hm : m ≤ 1024) (hq : ∀ j, j < m → NLS B w (Q j) (L j).1 (L j).2) : NLS B w P (joinR true L m).1 (joinR true L m).2 := by
  intro w' hb
  have hn := h.keep hb
  have c0 := hn.op
  have c2 := hn.sub
  have HK : Hid (∀ j, j < m → ∃ b, sa = some ⟨b, 0, none⟩ ∧ w'.cell? ⟨b, j, none⟩ = some (.pointer (some ⟨Q j, 0, none⟩))) := fun j hj => by
    obtain ⟨b, hB, e, hc⟩ := hk j hj
    exact ⟨b, e, cell_keep (a := ⟨b, j, none⟩) hb hB hc⟩
  have HQ : Hid (∀ j, j < m → Calls Yba.prog 6 #[.pointer (some ⟨Q j, 0, none⟩)] w' fun e w'' => e = .returned (.tuple #[.int .i64 (L j).1, .bool (L j).2]) ∧ w'' = w') := fun j hj => hq j hj w' hb
  clear hn h hb hk hq
  go_enter Yba.func6, Yba.ntmps6
  go_wp2
  go_loopw [4, 128] (fun s4 s128 wr => w' = wr ∧ ∃ (k : Nat) (x : Int), k ≤ m ∧ s128 = .int .i64 k ∧ s4 = .int .i64 x ∧ runT true L k = some x) (fun _ s128 _ => m - (intOf s128).toNat)
  case atStart => exact ⟨rfl, 0, 0, by omega, rfl, rfl, rfl⟩
  case round =>
    obtain ⟨rfl, k, x, hk, rfl, rfl, hx⟩ := hrel
    by_cases hkm : k < m
    · obtain ⟨b, rfl, r0⟩ := HK.out k hkm
      have HC := hide (HQ.out k hkm)
      have kk : (k : Int) < (m : Int) := by omega
      have kk0 : (0 : Int) ≤ (k : Int) := by omega
      have hwk : IntKind.i64.wrap ((k : Int) + 1) = (k : Int) + 1 := by rw [IntKind.wrap_i64]; omega
      obtain ⟨y, hy⟩ : ∃ y, (L k).1 = y := ⟨_, rfl⟩
      obtain ⟨ok, hok⟩ : ∃ ok, (L k).2 = ok := ⟨_, rfl⟩
      obtain ⟨q, hq⟩ : ∃ q, Q k = q := ⟨_, rfl⟩
      rw [hy, hok, hq] at HC
      rw [hq] at r0
      have HX := hide (And.intro hx (And.intro hy hok))
      clear hx hy hok hq
      cases ok with
      | false =>
        have e : joinR true L m = (0, false) := by
          have e1 : runT true L (k + 1) = none := by simp [runT, HX.out.1, HX.out.2.2]
          simp [joinR, runT_none e1 m (by omega)]
        have HJ := hide e
        clear e
        go_wp2_with (go_at_call 6; refine HC.out.mono ?_; rintro _ w9 ⟨rfl, h9⟩; rw [h9]; clear h9)
        go_ret2
        exact ⟨by rw [HJ.out]; rfl, rfl⟩
      | true =>
        have e : runT true L (k + 1) = some (IntKind.i64.wrap (x + y)) := by simp [runT, HX.out.1, HX.out.2.2, HX.out.2.1, comb]
        obtain ⟨v, hv⟩ : ∃ v, IntKind.i64.wrap (x + y) = v := ⟨_, rfl⟩
        rw [hv] at e
        have HE := hide e
        clear e
        go_wp2_with (go_at_call 6; refine HC.out.mono ?_; rintro _ w9 ⟨rfl, h9⟩; rw [h9]; clear h9)
        exact ⟨⟨trivial, k + 1, v, by omega, by go_num, rfl, HE.out⟩, by simp [intOf]; omega⟩
    · have e : m = k := by omega
      subst e
      have e1 : joinR true L m = (x, decide (x ≤ 8)) := by simp [joinR, hx]
      have HJ := hide e1
      clear e1 hx
      go_wp2
      go_ret2
      exact ⟨by rw [HJ.out]; rfl, rfl⟩
/-- OpAlternate. -/
theorem nl_alt {B : Nat} {w : World} {P m sc : Nat} {sa : Option Addr} {rune : Value} {mx : Int} {Q : Nat → Nat} {L : Nat → Int × Bool} (h : Nd B w P 19 (.slice sa m sc) rune mx) (hk : Kids B w sa m Q) (hm : m ≤ 1024) (hq : ∀ j, j < m → NLS B w (Q j) (L j).1 (L j).2) : NLS B w P (joinR false L m).1 (joinR false L m).2 := by
  intro w' hb
  have hn := h.keep hb
  have c0 := hn.op
  have c2 := hn.sub
  have HK : Hid (∀ j, j < m → ∃ b, sa = some ⟨b, 0, none⟩ ∧ w'.cell? ⟨b, j, none⟩ = some (.pointer (some ⟨Q j, 0, none⟩))) := fun j hj => by
    obtain ⟨b, hB, e, hc⟩ := hk j hj
    exact ⟨b, e, cell_keep (a := ⟨b, j, none⟩) hb hB hc⟩
  have HQ : Hid (∀ j, j < m → Calls Yba.prog 6 #[.pointer (some ⟨Q j, 0, none⟩)] w' fun e w'' => e = .returned (.tuple #[.int .i64 (L j).1, .bool (L j).2]) ∧ w'' = w') := fun j hj => hq j hj w' hb
  clear hn h hb hk hq
  go_enter Yba.func6, Yba.ntmps6
  go_wp2
  go_loopw [4, 128] (fun s4 s128 wr => w' = wr ∧ ∃ (k : Nat) (x : Int), k ≤ m ∧ s128 = .int .i64 k ∧ s4 = .int .i64 x ∧ runT false L k = some x) (fun _ s128 _ => m - (intOf s128).toNat)
  case atStart => exact ⟨rfl, 0, 0, by omega, rfl, rfl, rfl⟩
  case round =>
    obtain ⟨rfl, k, x, hk, rfl, rfl, hx⟩ := hrel
    by_cases hkm : k < m
    · obtain ⟨b, rfl, r0⟩ := HK.out k hkm
      have HC := hide (HQ.out k hkm)
      have kk : (k : Int) < (m : Int) := by omega
      have kk0 : (0 : Int) ≤ (k : Int) := by omega
      have hwk : IntKind.i64.wrap ((k : Int) + 1) = (k : Int) + 1 := by rw [IntKind.wrap_i64]; omega
      obtain ⟨y, hy⟩ : ∃ y, (L k).1 = y := ⟨_, rfl⟩
      obtain ⟨ok, hok⟩ : ∃ ok, (L k).2 = ok := ⟨_, rfl⟩
      obtain ⟨q, hq⟩ : ∃ q, Q k = q := ⟨_, rfl⟩
      rw [hy, hok, hq] at HC
      rw [hq] at r0
      have HX := hide (And.intro hx (And.intro hy hok))
      clear hx hy hok hq
      cases ok with
      | false =>
        have e : joinR false L m = (0, false) := by
          have e1 : runT false L (k + 1) = none := by simp [runT, HX.out.1, HX.out.2.2]
          simp [joinR, runT_none e1 m (by omega)]
        have HJ := hide e
        clear e
        go_wp2_with (go_at_call 6; refine HC.out.mono ?_; rintro _ w9 ⟨rfl, h9⟩; rw [h9]; clear h9)
        go_ret2
        exact ⟨by rw [HJ.out]; rfl, rfl⟩
      | true =>
        have e : runT false L (k + 1) = some (if x < y then y else x) := by simp [runT, HX.out.1, HX.out.2.2, HX.out.2.1, comb]
        obtain ⟨v, hv⟩ : ∃ v, (if x < y then y else x) = v := ⟨_, rfl⟩
        rw [hv] at e
        have HE := hide e
        clear e
        go_wp2_with (go_at_call 6; refine HC.out.mono ?_; rintro _ w9 ⟨rfl, h9⟩; rw [h9]; clear h9)
        exact ⟨⟨trivial, k + 1, v, by omega, by go_num, rfl, HE.out⟩, by simp [intOf]; omega⟩
    · have e : m = k := by omega
      subst e
      have e1 : joinR false L m = (x, decide (x ≤ 8)) := by simp [joinR, hx]
      have HJ := hide e1
      clear e1 hx
      go_wp2
      go_ret2
      exact ⟨by rw [HJ.out]; rfl, rfl⟩
end Go.Proofs.Ybulkcgxc
