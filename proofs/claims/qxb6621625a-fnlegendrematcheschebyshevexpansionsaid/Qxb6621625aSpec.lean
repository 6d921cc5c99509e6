/- THE PLAIN MATHEMATICS OF FLOATS, fourth part: Legendre's recurrence on words: its symmetry; its values at 1, -1 and 0. No Go in sight. -/
import Derived.Test.Qxb6621625aOps
namespace Go.Proofs.Qxb6621625a
open Ieee

def nanB (x : Nat) : Bool := (rd x).isNaN
/-- A word, all NaNs alike. -/
def cn (x : Nat) : Option Nat := if nanB x then none else some x
/-- An operation, all NaNs alike. -/
def opF (op : Nat → Nat → Option Nat) : Option Nat → Option Nat → Option Nat
  | some x, some y => op x y
  | _, _ => none
/-- The float64 of a whole number. -/
def flN (n : Nat) : Nat := double.write (.number false n 0)
def one : Nat := 4607182418800017408
def mone : Nat := 13830554455654793216
def two : Nat := 4611686018427387904
def twoN1 (n : Nat) : Option Nat := opF double.add (opF double.mul (some two) (some (flN n))) (some one)
def nP1 (n : Nat) : Option Nat := opF double.add (some (flN n)) (some one)

/-- One step of the recurrence, p[k] from p[k-1] = a and p[k-2] = b, n = k - 1. -/
def stepL (t : Option Nat) (n : Nat) (a b : Option Nat) : Option Nat :=
  opF double.div (opF double.sub (opF double.mul (opF double.mul (twoN1 n) t) a) (opF double.mul (some (flN n)) b)) (nP1 n)
/-- What legendre writes, all NaNs alike. -/
def leg (t : Option Nat) : Nat → Option Nat
  | 0 => some one
  | 1 => t
  | k + 2 => stepL t (k + 1) (leg t (k + 1)) (leg t k)

/-! ### Whole numbers and small words -/
theorem lt_1000 {v : Rat} (h : v ≤ p2 900) : v < p2 1000 := by
  have h1 : p2 1000 = p2 100 * p2 900 := by rw [← p2_add]; rfl
  have h2 := p2_one_le (show (0 : Int) ≤ 99 by decide)
  have h3 : p2 100 = 2 * p2 99 := by
    rw [show (100 : Int) = 1 + 99 by decide, p2_add]
    have : p2 1 = 2 := Rat.zpow_one 2
    rw [this]
  have h4 := p2_pos 900
  have h5 : (2 : Rat) * p2 900 ≤ p2 1000 := by
    rw [h1, h3]
    have := Rat.mul_le_mul_of_nonneg_right (show (2 : Rat) ≤ 2 * p2 99 by grind) (Rat.le_of_lt h4)
    grind
  grind
theorem small_900 {v : Rat} (h : v ≤ 1073741824) : v ≤ p2 900 := by
  have h1 := p2_mono (show (30 : Int) ≤ 900 by decide)
  have h2 : p2 30 = 1073741824 := by
    rw [show (30 : Int) = ((30 : Nat) : Int) from rfl, p2_nat]; rfl
  grind

theorem flN_spec (n : Nat) (h : n ≤ 1048576) : F (flN n) ∧ V (flN n) = (n : Rat) := by
  have hd : dv (.number false n 0) = (n : Rat) := by rw [dv_neg, p2_zero]; simp
  have hn : (n : Rat) ≤ 1048576 := by exact_mod_cast h
  have hb : (n : Rat) * p2 0 < p2 1000 := by rw [p2_zero, Rat.mul_one]; exact lt_1000 (small_900 (by grind))
  have hw := write_spec false n 0 hb
  refine ⟨hw.1, ?_⟩
  have := hw.2.2 n 0 (by omega) (by decide) rfl
  unfold V flN
  rw [this, hd]

theorem val_one : F one ∧ V one = 1 := by
  have e : rd one = .number false 4503599627370496 (-52) := by decide
  refine ⟨by unfold F; rw [e]; rfl, ?_⟩
  unfold V
  rw [e, dv_neg]
  simp only [Bool.false_eq_true, if_false]
  have h : ((4503599627370496 : Nat) : Rat) = p2 52 := by rw [show (52 : Int) = ((52 : Nat) : Int) from rfl, p2_nat]
  rw [h, ← p2_add]; exact p2_zero
theorem val_mone : F mone ∧ V mone = -1 := by
  have e : rd mone = .number true 4503599627370496 (-52) := by decide
  refine ⟨by unfold F; rw [e]; rfl, ?_⟩
  unfold V
  rw [e, dv_neg]
  simp only [if_true]
  have h : ((4503599627370496 : Nat) : Rat) = p2 52 := by rw [show (52 : Int) = ((52 : Nat) : Int) from rfl, p2_nat]
  rw [h, ← p2_add, show (52 : Int) + -52 = 0 by decide, p2_zero]
theorem val_two : F two ∧ V two = 2 := by
  have e : rd two = .number false 4503599627370496 (-51) := by decide
  refine ⟨by unfold F; rw [e]; rfl, ?_⟩
  unfold V
  rw [e, dv_neg]
  simp only [Bool.false_eq_true, if_false]
  have h : ((4503599627370496 : Nat) : Rat) = p2 52 := by rw [show (52 : Int) = ((52 : Nat) : Int) from rfl, p2_nat]
  rw [h, ← p2_add, show (52 : Int) + -51 = 1 by decide]; exact Rat.zpow_one 2

/-- A rounded operation whose exact result is a whole number (or its negative) is exact. -/
theorem Rounds.whole {o : Option Nat} {v : Rat} (h : Rounds o v) (n : Nat) (hn : n < 9007199254740992) (hv : ab v = (n : Rat)) : ∃ r, o = some r ∧ F r ∧ V r = v := by
  obtain ⟨r, h1, h2, _, h4⟩ := h
  exact ⟨r, h1, h2, h4 n 0 hn (by decide) (by rw [p2_zero, Rat.mul_one]; exact hv)⟩

theorem twoN1_spec (n : Nat) (h : n ≤ 524288) : ∃ a, twoN1 n = some a ∧ F a ∧ V a = 2 * (n : Rat) + 1 := by
  have hn : (n : Rat) ≤ 524288 := by exact_mod_cast h
  have hn0 : (0 : Rat) ≤ (n : Rat) := Rat.natCast_nonneg
  obtain ⟨f1, v1⟩ := flN_spec n (by omega)
  have hv : V two * V (flN n) = ((2 * n : Nat) : Rat) := by rw [val_two.2, v1, Rat.natCast_mul]; rfl
  have h1 := mul_spec val_two.1 f1 (by rw [hv, ab_of_nonneg Rat.natCast_nonneg]; refine lt_1000 (small_900 ?_); rw [Rat.natCast_mul, show ((2 : Nat) : Rat) = 2 from rfl]; grind)
  rw [hv] at h1
  obtain ⟨r, e1, f2, v2⟩ := h1.whole (2 * n) (by omega) (ab_of_nonneg Rat.natCast_nonneg)
  have hv2 : V r + V one = ((2 * n + 1 : Nat) : Rat) := by rw [v2, val_one.2, Rat.natCast_add]; rfl
  have h2 := add_spec f2 val_one.1 (by rw [hv2, ab_of_nonneg Rat.natCast_nonneg]; refine lt_1000 (small_900 ?_); rw [Rat.natCast_add, Rat.natCast_mul, show ((2 : Nat) : Rat) = 2 from rfl, show ((1 : Nat) : Rat) = 1 from rfl]; grind)
  rw [hv2] at h2
  obtain ⟨a, e2, f3, v3⟩ := h2.whole (2 * n + 1) (by omega) (ab_of_nonneg Rat.natCast_nonneg)
  refine ⟨a, ?_, f3, by rw [v3, Rat.natCast_add, Rat.natCast_mul]; rfl⟩
  unfold twoN1
  rw [show opF double.mul (some two) (some (flN n)) = some r from e1]
  exact e2

theorem nP1_spec (n : Nat) (h : n ≤ 524288) : ∃ a, nP1 n = some a ∧ F a ∧ V a = (n : Rat) + 1 := by
  have hn : (n : Rat) ≤ 524288 := by exact_mod_cast h
  have hn0 : (0 : Rat) ≤ (n : Rat) := Rat.natCast_nonneg
  obtain ⟨f1, v1⟩ := flN_spec n (by omega)
  have hv : V (flN n) + V one = ((n + 1 : Nat) : Rat) := by rw [val_one.2, v1, Rat.natCast_add]; rfl
  have h1 := add_spec f1 val_one.1 (by rw [hv, ab_of_nonneg Rat.natCast_nonneg]; refine lt_1000 (small_900 ?_); rw [Rat.natCast_add, show ((1 : Nat) : Rat) = 1 from rfl]; grind)
  rw [hv] at h1
  obtain ⟨r, e1, f2, v2⟩ := h1.whole (n + 1) (by omega) (ab_of_nonneg Rat.natCast_nonneg)
  exact ⟨r, e1, f2, by rw [v2, Rat.natCast_add]; rfl⟩

/-! ### The symmetry -/
def relS (s : Bool) (x y : Nat) : Prop := dRel s (rd x) (rd y)
def nRel (s : Bool) : Option Nat → Option Nat → Prop
  | none, none => True
  | some x, some y => relS s x y ∧ nanB x = false
  | _, _ => False

theorem dRel_refl (d : Datum) : dRel false d d := by
  cases d with
  | number s m e => exact ⟨rfl, rfl, .inr (by simp)⟩
  | infinity s => show s = (s ^^ false); simp
  | nan => trivial
theorem nRel_refl {x : Nat} (h : nanB x = false) : nRel false (some x) (some x) := ⟨dRel_refl _, h⟩
theorem nanB_of_F {x : Nat} (h : F x) : nanB x = false := fin_notNaN h

theorem write_nRel {s : Bool} {a b : Option Datum} (h : oRel s a b) : nRel s (a.map double.write) (b.map double.write) := by
  cases a <;> cases b <;> first | exact h.elim | skip
  · trivial
  · exact write_rel double h.1 h.2

theorem mul_nRel {s t : Bool} {a a' b b' : Option Nat} (ha : nRel s a a') (hb : nRel t b b') : nRel (s ^^ t) (opF double.mul a b) (opF double.mul a' b') := by
  cases a <;> cases a' <;> first | exact ha.elim | skip
  · trivial
  · cases b <;> cases b' <;> first | exact hb.elim | skip
    · trivial
    · exact write_nRel (product_rel ha.1 hb.1)
theorem sub_nRel {s : Bool} {a a' b b' : Option Nat} (ha : nRel s a a') (hb : nRel s b b') : nRel s (opF double.sub a b) (opF double.sub a' b') := by
  cases a <;> cases a' <;> first | exact ha.elim | skip
  · trivial
  · cases b <;> cases b' <;> first | exact hb.elim | skip
    · trivial
    · exact write_nRel (sum_rel ha.1 (opposite_rel hb.1))
theorem div_nRel {s : Bool} {a a' : Option Nat} {y : Nat} (ha : nRel s a a') (hy : (rd y).isZero = false) : nRel s (opF double.div a (some y)) (opF double.div a' (some y)) := by
  cases a <;> cases a' <;> first | exact ha.elim | skip
  · trivial
  · exact write_nRel (quotient_rel _ ha.1 (dRel_refl _) hy)

theorem notZero {y : Nat} (hf : F y) (h : V y ≠ 0) : (rd y).isZero = false := by
  obtain ⟨s, m, e, h1⟩ := fin_form hf
  unfold V at h
  rw [h1] at h ⊢
  cases m with
  | zero => exact absurd (by rw [dv_neg, show ((0 : Nat) : Rat) = 0 from rfl]; split <;> grind) h
  | succ m => rfl

/-- legendre at t and at a t' that is t turned (s) or not. -/
theorem leg_sym {s : Bool} {t t' : Option Nat} (h : nRel s t t') : ∀ k : Nat, k ≤ 4096 → nRel (s && k % 2 == 1) (leg t k) (leg t' k) ∧ nRel (s && (k + 1) % 2 == 1) (leg t (k + 1)) (leg t' (k + 1))
  | 0, _ => by
    refine ⟨?_, ?_⟩
    · have : (s && (0 % 2 == 1)) = false := by cases s <;> rfl
      rw [this]; exact nRel_refl (nanB_of_F val_one.1)
    · have : (s && ((0 + 1) % 2 == 1)) = s := by cases s <;> rfl
      rw [this]; exact h
  | k + 1, hk => by
    obtain ⟨h1, h2⟩ := leg_sym h k (by omega)
    refine ⟨h2, ?_⟩
    obtain ⟨a, ea, fa, va⟩ := twoN1_spec (k + 1) (by omega)
    obtain ⟨b, eb, fb, vb⟩ := nP1_spec (k + 1) (by omega)
    show nRel _ (stepL t (k + 1) (leg t (k + 1)) (leg t k)) (stepL t' (k + 1) (leg t' (k + 1)) (leg t' k))
    unfold stepL
    rw [ea, eb]
    have hb0 : (rd b).isZero = false := notZero fb (by
      rw [vb]; have : (0 : Rat) ≤ ((k + 1 : Nat) : Rat) := Rat.natCast_nonneg
      grind)
    have m1 := mul_nRel (nRel_refl (nanB_of_F fa)) h
    have m2 := mul_nRel m1 h2
    have m3 := mul_nRel (nRel_refl (nanB_of_F (flN_spec (k + 1) (by omega)).1)) h1
    have e1 : (false ^^ s ^^ (s && (k + 1) % 2 == 1)) = (s && k % 2 == 1) := by
      cases s
      · rfl
      · rcases Nat.mod_two_eq_zero_or_one k with h0 | h0
        · simp [h0, show (k + 1) % 2 = 1 by omega]
        · simp [h0, show (k + 1) % 2 = 0 by omega]
    have e2 : (false ^^ (s && k % 2 == 1)) = (s && k % 2 == 1) := by simp
    have e3 : (s && (k + 1 + 1) % 2 == 1) = (s && k % 2 == 1) := by rw [show (k + 1 + 1) % 2 = k % 2 by omega]
    rw [e1] at m2
    rw [e2] at m3
    rw [e3]
    exact div_nRel (sub_nRel m2 m3) hb0


/-! ### At 1 and at -1 -/
def sg (u : Rat) (k : Nat) : Rat := if k % 2 = 1 then u else 1
theorem sg_succ {u : Rat} (h : u = 1 ∨ u = -1) (k : Nat) : u * sg u (k + 1) = sg u k := by
  unfold sg
  rcases Nat.mod_two_eq_zero_or_one k with h0 | h0
  · rw [if_pos (by omega), if_neg (by omega)]; rcases h with rfl | rfl <;> grind
  · rw [if_neg (by omega), if_pos h0]; grind
theorem sg_two (u : Rat) (k : Nat) : sg u (k + 2) = sg u k := by
  unfold sg
  rw [show (k + 2) % 2 = k % 2 by omega]
theorem ab_sg {u : Rat} (h : u = 1 ∨ u = -1) (k : Nat) : ab (sg u k) = 1 := by
  have h1 : ab 1 = 1 := ab_of_nonneg (by decide)
  unfold sg
  split
  · rcases h with rfl | rfl
    · exact h1
    · rw [ab_neg]; exact h1
  · exact h1

theorem whole_mul {x y : Nat} (hx : F x) (hy : F y) (n : Nat) (hn : n ≤ 1048577) (hv : ab (V x * V y) = (n : Rat)) : ∃ r, double.mul x y = some r ∧ F r ∧ V r = V x * V y := by
  have hn' : (n : Rat) ≤ 1048577 := by exact_mod_cast hn
  exact (mul_spec hx hy (by rw [hv]; exact lt_1000 (small_900 (by grind)))).whole n (by omega) hv
theorem whole_sub {x y : Nat} (hx : F x) (hy : F y) (n : Nat) (hn : n ≤ 1048577) (hv : ab (V x - V y) = (n : Rat)) : ∃ r, double.sub x y = some r ∧ F r ∧ V r = V x - V y := by
  have hn' : (n : Rat) ≤ 1048577 := by exact_mod_cast hn
  exact (sub_spec hx hy (by rw [hv]; exact lt_1000 (small_900 (by grind)))).whole n (by omega) hv
theorem one_lt_999 : (1 : Rat) < p2 999 := by
  have h1 := p2_one_le (show (0 : Int) ≤ 998 by decide)
  have h2 : p2 999 = 2 * p2 998 := by
    rw [show (999 : Int) = 1 + 998 by decide, p2_add]
    have : p2 1 = 2 := Rat.zpow_one 2
    rw [this]
  grind

theorem leg_two (t : Option Nat) (k : Nat) : leg t (k + 1 + 1) = stepL t (k + 1) (leg t (k + 1)) (leg t k) := rfl
theorem step_of {t x1 x0 a b r1 r2 r3 r4 r5 n : Nat} (ea : twoN1 n = some a) (eb : nP1 n = some b) (g1 : double.mul a t = some r1) (g2 : double.mul r1 x1 = some r2)
    (g3 : double.mul (flN n) x0 = some r3) (g4 : double.sub r2 r3 = some r4) (g5 : double.div r4 b = some r5) : stepL (some t) n (some x1) (some x0) = some r5 := by
  have e1 : ∀ (op : Nat → Nat → Option Nat) (x y : Nat), opF op (some x) (some y) = op x y := fun _ _ _ => rfl
  unfold stepL
  rw [ea, eb, e1, g1, e1, g2, e1, g3, e1, g4, e1, g5]

theorem leg_pm {u : Rat} (hu : u = 1 ∨ u = -1) {t : Nat} (ft : F t) (vt : V t = u) : ∀ k : Nat, k ≤ 4096 →
    (∃ x, leg (some t) k = some x ∧ F x ∧ V x = sg u k) ∧ ∃ x, leg (some t) (k + 1) = some x ∧ F x ∧ V x = sg u (k + 1)
  | 0, _ => ⟨⟨one, rfl, val_one.1, by rw [val_one.2]; rfl⟩, ⟨t, rfl, ft, by rw [vt]; rfl⟩⟩
  | k + 1, hk => by
    obtain ⟨⟨x0, e0, f0, v0⟩, ⟨x1, e1, f1, v1⟩⟩ := leg_pm hu ft vt k (by omega)
    refine ⟨⟨x1, e1, f1, v1⟩, ?_⟩
    obtain ⟨a, ea, fa, va⟩ := twoN1_spec (k + 1) (by omega)
    obtain ⟨b, eb, fb, vb⟩ := nP1_spec (k + 1) (by omega)
    obtain ⟨fn, vn⟩ := flN_spec (k + 1) (by omega)
    have hk0 : (0 : Rat) ≤ ((k + 1 : Nat) : Rat) := Rat.natCast_nonneg
    have hau : ab u = 1 := by rcases hu with rfl | rfl
                              · exact ab_of_nonneg (by decide)
                              · rw [ab_neg]; exact ab_of_nonneg (by decide)
    have cast1 : ((2 * (k + 1) + 1 : Nat) : Rat) = 2 * ((k + 1 : Nat) : Rat) + 1 := by rw [Rat.natCast_add, Rat.natCast_mul]; rfl
    have cast2 : ((k + 1 + 1 : Nat) : Rat) = ((k + 1 : Nat) : Rat) + 1 := by rw [Rat.natCast_add (k + 1) 1]; rfl
    have h2k : (0 : Rat) ≤ 2 * ((k + 1 : Nat) : Rat) + 1 := by grind
    obtain ⟨r1, g1, fr1, w1⟩ := whole_mul fa ft (2 * (k + 1) + 1) (by omega) (by rw [va, vt, ab_mul, hau, ab_of_nonneg h2k, cast1, Rat.mul_one])
    obtain ⟨r2, g2, fr2, w2⟩ := whole_mul fr1 f1 (2 * (k + 1) + 1) (by omega) (by rw [w1, v1, va, vt, ab_mul, ab_mul, ab_sg hu, hau, ab_of_nonneg h2k, cast1, Rat.mul_one, Rat.mul_one])
    obtain ⟨r3, g3, fr3, w3⟩ := whole_mul fn f0 (k + 1) (by omega) (by rw [vn, v0, ab_mul, ab_sg hu, ab_of_nonneg hk0, Rat.mul_one])
    have hnum : V r2 - V r3 = (((k + 1 : Nat) : Rat) + 1) * sg u k := by
      rw [w2, w3, w1, va, vt, v1, vn, v0]
      have := sg_succ hu k
      grind
    have hpos : (0 : Rat) ≤ ((k + 1 : Nat) : Rat) + 1 := by grind
    obtain ⟨r4, g4, fr4, w4⟩ := whole_sub fr2 fr3 (k + 1 + 1) (by omega) (by rw [hnum, ab_mul, ab_sg hu, ab_of_nonneg hpos, cast2, Rat.mul_one])
    have hq : V r4 / V b = sg u k := by
      rw [w4, hnum, vb]
      grind
    have hb0 : V b ≠ 0 := by rw [vb]; grind
    obtain ⟨r5, g5, fr5, _, ex5⟩ := div_spec fr4 fb hb0 (by rw [hq, ab_sg hu]; exact one_lt_999)
    refine ⟨r5, ?_, fr5, by rw [ex5 (by rw [hq]; exact ab_sg hu k), hq, sg_two]⟩
    rw [leg_two, e1, e0]
    exact step_of ea eb g1 g2 g3 g4 g5

/-! ### At 0 -/
theorem tiny_le : p2 (-1075) ≤ p2 (-40) := p2_mono (by decide)
theorem p2_m40 : p2 (-40) * 1099511627776 = 1 := by
  have h : p2 40 = 1099511627776 := by rw [show (40 : Int) = ((40 : Nat) : Int) from rfl, p2_nat]; rfl
  rw [← h, ← p2_add]; exact p2_zero

/-- A rounded result is off by at most 2^-20 where the exact one is at most 2^16. -/
theorem err_small {v e : Rat} (hv : ab v ≤ 65536) (he : e ≤ p2 (-52) * ab v + p2 (-1075)) : e ≤ p2 (-35) := by
  have h1 := Rat.mul_le_mul_of_nonneg_left hv (Rat.le_of_lt (p2_pos (-52)))
  have h2 : p2 (-36) = p2 (-52) * 65536 := by
    have h : p2 16 = 65536 := by rw [show (16 : Int) = ((16 : Nat) : Int) from rfl, p2_nat]; rfl
    rw [← h, ← p2_add]; rfl
  have h3 : p2 (-35) = 2 * p2 (-36) := by
    rw [show (-35 : Int) = 1 + -36 by decide, p2_add]
    have : p2 1 = 2 := Rat.zpow_one 2
    rw [this]
  have h4 : p2 (-1075) ≤ p2 (-36) := p2_mono (by decide)
  grind
theorem p53_le : p2 (-53) ≤ p2 (-52) := p2_mono (by decide)
theorem p35 : p2 (-35) * 34359738368 = 1 := by
  have h : p2 35 = 34359738368 := by rw [show (35 : Int) = ((35 : Nat) : Int) from rfl, p2_nat]; rfl
  rw [← h, ← p2_add]; exact p2_zero

theorem Rounds.near {o : Option Nat} {v : Rat} (h : Rounds o v) (hv : ab v ≤ 65536) : ∃ r, o = some r ∧ F r ∧ ab (V r - v) ≤ p2 (-35) := by
  obtain ⟨r, h1, h2, h3, _⟩ := h
  refine ⟨r, h1, h2, err_small hv ?_⟩
  have := Rat.mul_le_mul_of_nonneg_right p53_le (ab_nonneg v)
  grind

theorem p35_8 : p2 (-35) ≤ 1 / 8 := by
  have := p35
  grind
theorem p35_3 : p2 (-35) ≤ 3 / 4 * (1 / 4097) := by
  have := p35
  grind
theorem near_le {r v e b : Rat} (h : ab (r - v) ≤ e) (hv : ab v ≤ b) : ab r ≤ b + e := by
  have := ab_add (r - v) v
  rw [show r - v + v = r by grind] at this
  grind
theorem add65 {n c : Rat} (h : n ≤ 4096) (hc : c ≤ 1) : n + c ≤ 65536 := by grind
theorem ne0 {n : Rat} (h : 0 ≤ n) : n + 1 ≠ 0 := by grind
theorem zsub (x : Rat) : 0 - x = -x := by grind
theorem le_lt {a b c : Rat} (h : a ≤ b) (h' : b < c) : a < c := by grind
theorem add_le_of {x b e c : Rat} (h : x ≤ b + e) (he : e ≤ c) : x ≤ b + c := by grind
theorem zero_step {n Q w e : Rat} (hn : 0 ≤ n) (hn2 : n ≤ 4096) (hQ : Q * (n + 1) = w) (hw : ab w ≤ n + 1 / 4) (he : e ≤ 3 / 4 * (1 / 4097)) : ab Q ≤ 1 ∧ ab Q + e ≤ 1 := by
  have hp : (0 : Rat) < n + 1 := by grind
  rw [← hQ, ab_mul, ab_of_nonneg (Rat.le_of_lt hp)] at hw
  have h2 : ab Q + 3 / 4 * (1 / 4097) ≤ 1 := by
    refine Rat.le_of_mul_le_mul_right (c := n + 1) ?_ hp
    grind
  grind
theorem big_of {v b : Rat} (h : v ≤ b) (hb : b ≤ 65536) : v < p2 1000 ∧ v ≤ 65536 := ⟨lt_1000 (small_900 (by grind)), by grind⟩

theorem leg_zero {t : Nat} (ft : F t) (vt : V t = 0) : ∀ k : Nat, k ≤ 4096 →
    (∃ x, leg (some t) k = some x ∧ F x ∧ ab (V x) ≤ 1) ∧ ∃ x, leg (some t) (k + 1) = some x ∧ F x ∧ ab (V x) ≤ 1
  | 0, _ => ⟨⟨one, rfl, val_one.1, by rw [val_one.2, ab_of_nonneg (by decide)]; exact Rat.le_refl⟩, ⟨t, rfl, ft, by rw [vt, ab_of_nonneg (Rat.le_refl)]; decide⟩⟩
  | k + 1, hk => by
    obtain ⟨⟨x0, e0, f0, v0⟩, ⟨x1, e1, f1, v1⟩⟩ := leg_zero ft vt k (by omega)
    refine ⟨⟨x1, e1, f1, v1⟩, ?_⟩
    obtain ⟨a, ea, fa, va⟩ := twoN1_spec (k + 1) (by omega)
    obtain ⟨b, eb, fb, vb⟩ := nP1_spec (k + 1) (by omega)
    obtain ⟨fn, vn⟩ := flN_spec (k + 1) (by omega)
    have hk0 : (0 : Rat) ≤ ((k + 1 : Nat) : Rat) := Rat.natCast_nonneg
    have hk1 : ((k + 1 : Nat) : Rat) ≤ 4096 := by exact_mod_cast hk
    have z0 : ab (0 : Rat) = ((0 : Nat) : Rat) := ab_of_nonneg (Rat.le_refl)
    obtain ⟨r1, g1, fr1, w1⟩ := whole_mul fa ft 0 (by omega) (by rw [vt, Rat.mul_zero]; exact z0)
    rw [vt, Rat.mul_zero] at w1
    obtain ⟨r2, g2, fr2, w2⟩ := whole_mul fr1 f1 0 (by omega) (by rw [w1, Rat.zero_mul]; exact z0)
    rw [w1, Rat.zero_mul] at w2
    have hv3 : ab (V (flN (k + 1)) * V x0) ≤ ((k + 1 : Nat) : Rat) := by
      rw [vn, ab_mul, ab_of_nonneg hk0]
      have := Rat.mul_le_mul_of_nonneg_left v0 hk0
      rwa [Rat.mul_one] at this
    have hb65 : ∀ c : Rat, c ≤ 1 → ((k + 1 : Nat) : Rat) + c ≤ 65536 := fun c hc => add65 hk1 hc
    have hbig3 := big_of hv3 (by have := hb65 0 (by decide); rwa [Rat.add_zero] at this)
    obtain ⟨r3, g3, fr3, w3⟩ := (mul_spec fn f0 hbig3.1).near hbig3.2
    have h3 : ab (V r3) ≤ ((k + 1 : Nat) : Rat) + 1 / 8 := add_le_of (near_le w3 hv3) p35_8
    have hv4 : ab (V r2 - V r3) ≤ ((k + 1 : Nat) : Rat) + 1 / 8 := by
      rw [w2, zsub, ab_neg]; exact h3
    have hbig4 := big_of hv4 (hb65 (1 / 8) (by decide +kernel))
    obtain ⟨r4, g4, fr4, w4⟩ := (sub_spec fr2 fr3 hbig4.1).near hbig4.2
    have h4 : ab (V r4) ≤ ((k + 1 : Nat) : Rat) + 1 / 4 := by
      have := add_le_of (near_le w4 hv4) p35_8
      rwa [Rat.add_assoc, show (1 / 8 + 1 / 8 : Rat) = 1 / 4 by decide +kernel] at this
    have hb0 : V b ≠ 0 := by rw [vb]; exact ne0 hk0
    -- the quotient stays away from 1
    obtain ⟨Q, hQ⟩ : ∃ Q, V r4 / V b = Q := ⟨_, rfl⟩
    have hQb : Q * (((k + 1 : Nat) : Rat) + 1) = V r4 := by rw [← hQ, ← vb]; exact Rat.div_mul_cancel hb0
    have hQs := zero_step hk0 hk1 hQb h4 p35_3
    obtain ⟨r5, g5, fr5, err5, _⟩ := div_spec fr4 fb hb0 (by rw [hQ]; exact le_lt hQs.1 one_lt_999)
    rw [hQ] at err5
    have hsm := err_small (Rat.le_trans hQs.1 (by decide)) err5
    refine ⟨r5, ?_, fr5, Rat.le_trans (near_le hsm (Rat.le_refl)) hQs.2⟩
    rw [leg_two, e1, e0]
    exact step_of ea eb g1 g2 g3 g4 g5

end Go.Proofs.Qxb6621625a
