/- THE PLAIN MATHEMATICS OF FLOATS, second part: what rounding does, over the rationals. No Go in sight. -/
import Derived.Test.Qxb6621625aFloats
namespace Go.Proofs.Qxb6621625a
open Ieee

/-! ### Powers of two; the absolute value -/
def p2 (e : Int) : Rat := (2 : Rat) ^ e
theorem two_ne : (2 : Rat) ≠ 0 := by decide
theorem p2_pos (e : Int) : 0 < p2 e := Rat.zpow_pos (by decide)
theorem p2_add (a b : Int) : p2 (a + b) = p2 a * p2 b := Rat.zpow_add two_ne a b
theorem p2_nat (n : Nat) : p2 (n : Int) = ((2 ^ n : Nat) : Rat) := by
  unfold p2
  rw [Rat.zpow_natCast, Rat.natCast_pow]
  rfl
theorem p2_zero : p2 0 = 1 := Rat.zpow_zero 2
theorem p2_toNat {e : Int} (h : 0 ≤ e) : p2 e = ((2 ^ e.toNat : Nat) : Rat) := by
  rw [← p2_nat, Int.toNat_of_nonneg h]
theorem p2_one_le {e : Int} (h : 0 ≤ e) : 1 ≤ p2 e := by
  rw [p2_toNat h]
  have : 1 ≤ 2 ^ e.toNat := Nat.one_le_two_pow
  exact_mod_cast this
theorem p2_mono {a b : Int} (h : a ≤ b) : p2 a ≤ p2 b := by
  have e : b = (b - a) + a := by omega
  rw [e, p2_add]
  have h1 := p2_one_le (e := b - a) (by omega)
  have h2 := p2_pos a
  have := Rat.mul_le_mul_of_nonneg_right h1 (Rat.le_of_lt h2)
  grind

def ab (x : Rat) : Rat := if 0 ≤ x then x else -x
theorem ab_nonneg (x : Rat) : 0 ≤ ab x := by unfold ab; split <;> grind
theorem ab_le {x b : Rat} : ab x ≤ b ↔ -b ≤ x ∧ x ≤ b := by unfold ab; split <;> grind
theorem le_ab (x : Rat) : x ≤ ab x := by unfold ab; split <;> grind
theorem neg_le_ab (x : Rat) : -x ≤ ab x := by unfold ab; split <;> grind
theorem ab_neg (x : Rat) : ab (-x) = ab x := by unfold ab; split <;> split <;> grind
theorem ab_add (x y : Rat) : ab (x + y) ≤ ab x + ab y := by
  have := le_ab x; have := le_ab y; have := neg_le_ab x; have := neg_le_ab y
  rw [ab_le]; grind
theorem ab_sub (x y : Rat) : ab (x - y) ≤ ab x + ab y := by
  have := ab_add x (-y); rw [ab_neg] at this; grind
theorem ab_of_nonneg {x : Rat} (h : 0 ≤ x) : ab x = x := by unfold ab; rw [if_pos h]
theorem ab_mul (x y : Rat) : ab (x * y) = ab x * ab y := by
  by_cases hx : 0 ≤ x <;> by_cases hy : 0 ≤ y
  · rw [ab_of_nonneg hx, ab_of_nonneg hy, ab_of_nonneg (Rat.mul_nonneg hx hy)]
  · have h1 := Rat.mul_nonneg hx (show (0 : Rat) ≤ -y by grind)
    have e : x * -y = -(x * y) := by grind
    rw [ab_of_nonneg hx, ← ab_neg (x * y), ← ab_neg y, ← e, ab_of_nonneg h1, ab_of_nonneg (show (0 : Rat) ≤ -y by grind)]
  · have h1 := Rat.mul_nonneg (show (0 : Rat) ≤ -x by grind) hy
    have e : -x * y = -(x * y) := by grind
    rw [ab_of_nonneg hy, ← ab_neg (x * y), ← ab_neg x, ← e, ab_of_nonneg h1, ab_of_nonneg (show (0 : Rat) ≤ -x by grind)]
  · have h1 := Rat.mul_nonneg (show (0 : Rat) ≤ -x by grind) (show (0 : Rat) ≤ -y by grind)
    have e : -x * -y = x * y := by grind
    rw [← e, ab_of_nonneg h1, ← ab_neg x, ← ab_neg y, ab_of_nonneg (show (0 : Rat) ≤ -x by grind), ab_of_nonneg (show (0 : Rat) ≤ -y by grind)]

/-! ### The cut to a whole number -/
theorem cut_zero (n : Nat) : Toward.even.cut false n 0 = n := by
  unfold Toward.cut
  simp [Nat.mod_one]

theorem cut_even (n drop : Nat) : 2 * (Toward.even.cut false n drop * 2 ^ drop) ≤ 2 * n + 2 ^ drop ∧ 2 * n ≤ 2 * (Toward.even.cut false n drop * 2 ^ drop) + 2 ^ drop := by
  unfold Toward.cut
  simp only [Nat.shiftLeft_eq, Nat.one_mul]
  by_cases hd : drop ≤ n.log2 + 2
  · rw [Nat.min_eq_left hd]
    generalize hg : 2 ^ drop = gap
    have hpos : 0 < gap := by rw [← hg]; exact Nat.two_pow_pos _
    have hdm := Nat.div_add_mod n gap
    have hml := Nat.mod_lt n hpos
    generalize n / gap = low at *
    generalize n % gap = rest at *
    have hmul : (low + 1) * gap = gap * low + gap := by rw [Nat.add_mul, Nat.mul_comm low]; omega
    have hmul0 : low * gap = gap * low := Nat.mul_comm _ _
    by_cases h1 : gap < 2 * rest
    · simp only [h1, decide_true, Bool.true_or, Bool.toNat_true]
      rw [hmul]; omega
    · by_cases h2 : (gap == 2 * rest && low % 2 == 1) = true
      · simp only [h2, Bool.or_true, Bool.toNat_true]
        simp only [Bool.and_eq_true, beq_iff_eq] at h2
        rw [hmul]; omega
      · simp only [h1, decide_false, h2, Bool.or_self, Bool.toNat_false, Nat.add_zero]
        rw [hmul0]; omega
  · have hd' : n.log2 + 2 ≤ drop := by omega
    rw [Nat.min_eq_right hd']
    have h1 : n < 2 ^ (n.log2 + 1) := Nat.lt_log2_self
    have h2 : 2 ^ (n.log2 + 2) = 2 * 2 ^ (n.log2 + 1) := by rw [Nat.pow_succ]; omega
    have h3 : 2 ^ (n.log2 + 2) ≤ 2 ^ drop := Nat.pow_le_pow_right (by omega) hd'
    have hdiv : n / 2 ^ (n.log2 + 2) = 0 := Nat.div_eq_of_lt (by omega)
    have hmod : n % 2 ^ (n.log2 + 2) = n := Nat.mod_eq_of_lt (by omega)
    rw [hdiv, hmod]
    have e1 : decide (2 ^ (n.log2 + 2) < 2 * n) = false := decide_eq_false (by omega)
    simp [e1]
    omega


/-! ### The rung of the nearest word -/
theorem lp_eq : double.leastPlace = -1074 := by decide
theorem binade_eq : double.binade = 4503599627370496 := by decide
theorem infRung_eq : double.infRung = 9218868437227405312 := by decide
theorem sw_eq : double.signWeight = 9223372036854775808 := by decide

theorem p2_lt {a b : Int} (h : p2 a < p2 b) : a < b := by
  by_cases hab : a < b
  · exact hab
  · have := p2_mono (show b ≤ a by omega)
    grind

theorem log2_le (m : Nat) (e : Int) (h : m ≠ 0) : p2 (e + m.log2) ≤ (m : Rat) * p2 e := by
  rw [Int.add_comm, p2_add, p2_nat]
  have h1 : ((2 ^ m.log2 : Nat) : Rat) ≤ (m : Rat) := by exact_mod_cast Nat.log2_self_le h
  exact Rat.mul_le_mul_of_nonneg_right h1 (Rat.le_of_lt (p2_pos e))
theorem lt_log2 (m : Nat) (e : Int) : (m : Rat) * p2 e < p2 (e + m.log2 + 1) := by
  rw [show e + (m.log2 : Int) + 1 = ((m.log2 + 1 : Nat) : Int) + e by omega, p2_add, p2_nat]
  have h1 : (m : Rat) < ((2 ^ (m.log2 + 1) : Nat) : Rat) := by exact_mod_cast Nat.lt_log2_self
  exact Rat.mul_lt_mul_of_pos_right h1 (p2_pos e)

theorem half_of {a b d : Rat} (h : 2 * a ≤ 2 * b + d) : a ≤ b + d / 2 := by grind

theorem rung_core (mag : Nat) (place : Int) (h : mag ≠ 0) :
    ∃ (last : Int) (kept : Nat), -1074 ≤ last ∧ kept ≤ 9007199254740992 ∧ (last = -1074 ∨ 4503599627370496 ≤ kept) ∧
      rungOf double mag place = min ((last + 1074).toNat * 4503599627370496 + kept) 9218868437227405312 ∧
      (kept : Rat) * p2 last ≤ mag * p2 place + p2 last / 2 ∧ (mag : Rat) * p2 place ≤ kept * p2 last + p2 last / 2 ∧
      (last = -1074 ∨ p2 (last + 52) ≤ (mag : Rat) * p2 place) ∧ (mag : Rat) * p2 place < p2 (last + 53) := by
  obtain ⟨last, hlast⟩ : ∃ last : Int, max (place + mag.log2 - 52) (-1074) = last := ⟨_, rfl⟩
  have hR : rungOf double mag place = min ((last + 1074).toNat * 4503599627370496 + Toward.even.cut false (mag <<< (place - last).toNat) (last - place).toNat) 9218868437227405312 := by
    unfold rungOf
    rw [if_neg h, lp_eq, binade_eq, infRung_eq]
    have : (double.fractionBits : Int) = 52 := rfl
    rw [this, hlast, show last - (-1074) = last + 1074 by omega]
  have hl1 : -1074 ≤ last := by omega
  have hl2 : place + mag.log2 - 52 ≤ last := by omega
  have hl3 : last = -1074 ∨ last = place + mag.log2 - 52 := by omega
  have hlo : last = -1074 ∨ p2 (last + 52) ≤ (mag : Rat) * p2 place := hl3.imp id fun e => by
    rw [show last + 52 = place + mag.log2 by omega]; exact log2_le mag place h
  have hhi : (mag : Rat) * p2 place < p2 (last + 53) := by
    have h1 := lt_log2 mag place
    have h2 := p2_mono (show place + mag.log2 + 1 ≤ last + 53 by omega)
    grind
  have hpl := p2_pos last
  by_cases hpl' : last ≤ place
  · -- nothing is dropped
    have e1 : (last - place).toNat = 0 := by omega
    have e2 : ((place - last).toNat : Int) = place - last := Int.toNat_of_nonneg (by omega)
    rw [e1, cut_zero, Nat.shiftLeft_eq] at hR
    have hv : ((mag * 2 ^ (place - last).toNat : Nat) : Rat) * p2 last = (mag : Rat) * p2 place := by
      rw [Rat.natCast_mul, Rat.mul_assoc, ← p2_nat, e2, ← p2_add]
      rw [show place - last + last = place by omega]
    have hk1 : mag * 2 ^ (place - last).toNat < 9007199254740992 := by
      have h1 : ((mag * 2 ^ (place - last).toNat : Nat) : Rat) * p2 last < p2 53 * p2 last := by
        rw [hv, ← p2_add, show (53 : Int) + last = last + 53 by omega]; exact hhi
      have h2 := Rat.lt_of_mul_lt_mul_right h1 (Rat.le_of_lt hpl)
      rw [show (53 : Int) = ((53 : Nat) : Int) from rfl, p2_nat] at h2
      have h3 : mag * 2 ^ (place - last).toNat < 2 ^ 53 := by exact_mod_cast h2
      omega
    have hk2 : last = -1074 ∨ 4503599627370496 ≤ mag * 2 ^ (place - last).toNat := hlo.imp id fun hh => by
      have h1 : p2 52 * p2 last ≤ ((mag * 2 ^ (place - last).toNat : Nat) : Rat) * p2 last := by
        rw [hv, ← p2_add, show (52 : Int) + last = last + 52 by omega]; exact hh
      have h2 := Rat.le_of_mul_le_mul_right h1 hpl
      rw [show (52 : Int) = ((52 : Nat) : Int) from rfl, p2_nat] at h2
      have h3 : 2 ^ 52 ≤ mag * 2 ^ (place - last).toNat := by exact_mod_cast h2
      omega
    exact ⟨last, _, hl1, by omega, hk2, hR, by grind, by grind, hlo, hhi⟩
  · -- some digits are dropped
    have e1 : (place - last).toNat = 0 := by omega
    have e2 : ((last - place).toNat : Int) = last - place := Int.toNat_of_nonneg (by omega)
    rw [e1, Nat.shiftLeft_eq, Nat.pow_zero, Nat.mul_one] at hR
    have hc := cut_even mag (last - place).toNat
    generalize Toward.even.cut false mag (last - place).toNat = kept at hR hc
    have hd : ((2 ^ (last - place).toNat : Nat) : Rat) * p2 place = p2 last := by
      rw [← p2_nat, e2, ← p2_add, show last - place + place = last by omega]
    have hpp := p2_pos place
    have c1 : 2 * ((kept : Rat) * p2 last) ≤ 2 * ((mag : Rat) * p2 place) + p2 last := by
      have h1 : ((2 * (kept * 2 ^ (last - place).toNat) : Nat) : Rat) ≤ ((2 * mag + 2 ^ (last - place).toNat : Nat) : Rat) := by exact_mod_cast hc.1
      have h2 := Rat.mul_le_mul_of_nonneg_right h1 (Rat.le_of_lt hpp)
      rw [← hd]
      simp only [Rat.natCast_mul, Rat.natCast_add] at h2
      grind
    have c2 : 2 * ((mag : Rat) * p2 place) ≤ 2 * ((kept : Rat) * p2 last) + p2 last := by
      have h1 : ((2 * mag : Nat) : Rat) ≤ ((2 * (kept * 2 ^ (last - place).toNat) + 2 ^ (last - place).toNat : Nat) : Rat) := by exact_mod_cast hc.2
      have h2 := Rat.mul_le_mul_of_nonneg_right h1 (Rat.le_of_lt hpp)
      rw [← hd]
      simp only [Rat.natCast_mul, Rat.natCast_add] at h2
      grind
    have hk1 : kept ≤ 9007199254740992 := by
      have h1 : 2 * ((kept : Rat) * p2 last) < (2 * p2 53 + 1) * p2 last := by
        have h53 : p2 (last + 53) = p2 53 * p2 last := by rw [Int.add_comm, p2_add]
        rw [h53] at hhi
        grind
      have h2 : ((2 * kept : Nat) : Rat) * p2 last < (2 * p2 53 + 1) * p2 last := by
        rw [Rat.natCast_mul]; grind
      have h3 := Rat.lt_of_mul_lt_mul_right h2 (Rat.le_of_lt hpl)
      rw [show (53 : Int) = ((53 : Nat) : Int) from rfl, p2_nat] at h3
      have h4 : ((2 * kept : Nat) : Rat) < ((2 * 2 ^ 53 + 1 : Nat) : Rat) := by
        rw [Rat.natCast_add, Rat.natCast_mul 2 (2 ^ 53)]; exact h3
      have h5 : 2 * kept < 2 * 2 ^ 53 + 1 := by exact_mod_cast h4
      omega
    have hk2 : last = -1074 ∨ 4503599627370496 ≤ kept := hlo.imp id fun hh => by
      have h52 : p2 (last + 52) = p2 52 * p2 last := by rw [Int.add_comm, p2_add]
      rw [h52] at hh
      have h2 : (2 * p2 52 - 1) * p2 last ≤ ((2 * kept : Nat) : Rat) * p2 last := by
        rw [Rat.natCast_mul]; grind
      have h3 := Rat.le_of_mul_le_mul_right h2 hpl
      rw [show (52 : Int) = ((52 : Nat) : Int) from rfl, p2_nat] at h3
      have h4 : ((2 * 2 ^ 52 : Nat) : Rat) ≤ ((2 * kept + 1 : Nat) : Rat) := by
        rw [Rat.natCast_add, Rat.natCast_mul 2 (2 ^ 52)]; grind
      have h5 : 2 * 2 ^ 52 ≤ 2 * kept + 1 := by exact_mod_cast h4
      omega
    exact ⟨last, kept, hl1, hk1, hk2, hR, half_of c1, half_of c2, hlo, hhi⟩


/-! ### Values -/
def rd (x : Nat) : Datum := double.read x

/-- The value of a rung below infinity's. -/
def rv (R : Nat) : Rat := if R < 4503599627370496 then (R : Rat) * p2 (-1074) else ((4503599627370496 + R % 4503599627370496 : Nat) : Rat) * p2 (-1074 + (R / 4503599627370496 - 1 : Nat))

/-- The value of a datum (of no number: 0). -/
def dv : Datum → Rat
  | .number s m e => if s then -((m : Rat) * p2 e) else (m : Rat) * p2 e
  | _ => 0
/-- It is a number. -/
def isFin : Datum → Bool
  | .number .. => true
  | _ => false

theorem mk_fin (s : Bool) (R : Nat) (h : R < 9218868437227405312) : isFin (mk double s R) = true ∧ dv (mk double s R) = if s then - rv R else rv R := by
  unfold mk rv
  rw [binade_eq, infRung_eq, lp_eq]
  by_cases h1 : R < 4503599627370496
  · rw [if_pos h1, if_pos h1]
    exact ⟨rfl, rfl⟩
  · rw [if_neg h1, if_neg h1, if_pos h]
    exact ⟨rfl, rfl⟩

theorem rv_of (last : Int) (kept : Nat) (h1 : -1074 ≤ last) (h2 : kept ≤ 9007199254740992) (h3 : last = -1074 ∨ 4503599627370496 ≤ kept) :
    rv ((last + 1074).toNat * 4503599627370496 + kept) = (kept : Rat) * p2 last := by
  obtain ⟨q, hq⟩ : ∃ q : Nat, (last + 1074).toNat = q := ⟨_, rfl⟩
  have hl : last = -1074 + (q : Int) := by omega
  rw [hq]
  unfold rv
  by_cases ha : kept < 4503599627370496
  · have hq0 : q = 0 := by omega
    subst hq0
    rw [if_pos (by omega), hl]
    simp
  · rw [if_neg (by omega)]
    by_cases hb : kept < 9007199254740992
    · have e1 : (q * 4503599627370496 + kept) / 4503599627370496 = q + 1 := by omega
      have e2 : 4503599627370496 + (q * 4503599627370496 + kept) % 4503599627370496 = kept := by omega
      rw [e1, e2, hl, Nat.add_sub_cancel]
    · have hk : kept = 9007199254740992 := by omega
      subst hk
      have e1 : (q * 4503599627370496 + 9007199254740992) / 4503599627370496 = q + 2 := by omega
      have e2 : 4503599627370496 + (q * 4503599627370496 + 9007199254740992) % 4503599627370496 = 4503599627370496 := by omega
      rw [e1, e2, hl, show ((q + 2 - 1 : Nat) : Int) = 1 + (q : Int) by omega, show (-1074 : Int) + (1 + (q : Int)) = 1 + (-1074 + (q : Int)) by omega, p2_add 1]
      have : p2 1 = 2 := Rat.zpow_one 2
      rw [this]
      have : ((9007199254740992 : Nat) : Rat) = ((4503599627370496 : Nat) : Rat) * 2 := by
        have h : (9007199254740992 : Nat) = 4503599627370496 * 2 := by decide
        rw [h, Rat.natCast_mul]; rfl
      rw [this]
      grind

theorem dv_neg (s : Bool) (m : Nat) (e : Int) : dv (.number s m e) = if s then -((m : Rat) * p2 e) else (m : Rat) * p2 e := rfl

/-- **WHAT WRITING A NUMBER GIVES**, within the range: a number whose value is off by at most half a last digit. -/
theorem write_spec (s : Bool) (m : Nat) (e : Int) (hb : (m : Rat) * p2 e < p2 1000) :
    isFin (rd (double.write (.number s m e))) = true ∧ ab (dv (rd (double.write (.number s m e))) - dv (.number s m e)) ≤ p2 (-53) * ((m : Rat) * p2 e) + p2 (-1075) ∧
    (∀ (j : Nat) (q : Int), j < 9007199254740992 → -1074 ≤ q → (m : Rat) * p2 e = (j : Rat) * p2 q → dv (rd (double.write (.number s m e))) = dv (.number s m e)) := by
  unfold rd
  simp only [Format.write, nearest_eq]
  by_cases h0 : m = 0
  · subst h0
    have hr : rungOf double 0 e = 0 := by unfold rungOf; rw [if_pos rfl]
    rw [hr, read_word double s 0 (by rw [sw_eq]; decide)]
    obtain ⟨h1, h2⟩ := mk_fin s 0 (by decide)
    have hz : dv (mk double s 0) = 0 := by
      rw [h2]
      have : rv 0 = 0 := by unfold rv; rw [if_pos (by decide)]; simp
      rw [this]; simp
    have hz2 : dv (.number s 0 e) = 0 := by
      rw [dv_neg]; simp
    refine ⟨h1, ?_, fun _ _ _ _ _ => by rw [hz, hz2]⟩
    rw [hz, hz2]
    have := p2_pos (-1075)
    have e0 : ((0 : Nat) : Rat) * p2 e = 0 := by simp
    rw [e0, ab_le]
    grind
  · obtain ⟨last, kept, l1, k1, k2, hR, c1, c2, lo, hi⟩ := rung_core m e h0
    have hlt : last < 948 ∨ last = -1074 := by
      rcases lo with h | h
      · exact .inr h
      · have h1 : p2 (last + 52) < p2 1000 := by grind
        have := p2_lt h1
        omega
    have hRlt : (last + 1074).toNat * 4503599627370496 + kept < 9218868437227405312 := by omega
    rw [Nat.min_eq_left (by omega)] at hR
    rw [hR, read_word double s _ (by rw [sw_eq]; omega)]
    obtain ⟨f1, f2⟩ := mk_fin s _ hRlt
    rw [rv_of last kept l1 k1 k2] at f2
    have hhalf : p2 last / 2 ≤ p2 (-53) * ((m : Rat) * p2 e) + p2 (-1075) := by
      have e1 : p2 last / 2 = p2 (last - 1) := by
        rw [show last = (last - 1) + 1 by omega, p2_add (last - 1) 1]
        have : p2 1 = 2 := Rat.zpow_one 2
        rw [this, show last - 1 + 1 - 1 = last - 1 by omega]
        grind
      rw [e1]
      have hp := p2_pos (-53)
      rcases lo with h | h
      · rw [h, show (-1074 : Int) - 1 = -1075 by decide]
        have h1 : (0 : Rat) ≤ p2 (-53) * ((m : Rat) * p2 e) := Rat.mul_nonneg (Rat.le_of_lt hp) (Rat.mul_nonneg Rat.natCast_nonneg (Rat.le_of_lt (p2_pos e)))
        grind
      · have h1 := Rat.mul_le_mul_of_nonneg_left h (Rat.le_of_lt hp)
        rw [← p2_add, show (-53 : Int) + (last + 52) = last - 1 by omega] at h1
        have := p2_pos (-1075)
        grind
    refine ⟨f1, ?_, fun j q hj hq hv => ?_⟩
    · rw [f2, dv_neg]
      cases s
      · simp only [Bool.false_eq_true, if_false]
        rw [ab_le]; grind
      · simp only [if_true]
        rw [ab_le]; grind
    · have hj0 : j ≠ 0 := fun h => by
        subst h
        have h1 : (0 : Rat) < (m : Rat) * p2 e := Rat.mul_pos (Rat.natCast_pos.2 (by omega)) (p2_pos e)
        rw [hv] at h1
        simp at h1
      have hlq : last ≤ q := by
        rcases lo with h | h
        · omega
        · have h1 : (j : Rat) * p2 q < p2 (53 + q) := by
            rw [p2_add, show (53 : Int) = ((53 : Nat) : Int) from rfl, p2_nat]
            refine Rat.mul_lt_mul_of_pos_right ?_ (p2_pos q)
            have : j < 2 ^ 53 := by omega
            exact_mod_cast this
          rw [hv] at h
          have h2 : p2 (last + 52) < p2 (53 + q) := by grind
          have := p2_lt h2
          omega
      have hN : (m : Rat) * p2 e = ((j * 2 ^ (q - last).toNat : Nat) : Rat) * p2 last := by
        rw [hv, Rat.natCast_mul, Rat.mul_assoc, ← p2_nat, Int.toNat_of_nonneg (by omega), ← p2_add, show q - last + last = q by omega]
      have hpl := p2_pos last
      have hkN : kept = j * 2 ^ (q - last).toNat := by
        generalize j * 2 ^ (q - last).toNat = N at hN
        rw [hN] at c1 c2
        have d1 : ((2 * kept : Nat) : Rat) * p2 last ≤ ((2 * N + 1 : Nat) : Rat) * p2 last := by
          simp only [Rat.natCast_mul, Rat.natCast_add]; grind
        have d2 : ((2 * N : Nat) : Rat) * p2 last ≤ ((2 * kept + 1 : Nat) : Rat) * p2 last := by
          simp only [Rat.natCast_mul, Rat.natCast_add]; grind
        have d3 := Rat.le_of_mul_le_mul_right d1 hpl
        have d4 := Rat.le_of_mul_le_mul_right d2 hpl
        have d5 : 2 * kept ≤ 2 * N + 1 := by exact_mod_cast d3
        have d6 : 2 * N ≤ 2 * kept + 1 := by exact_mod_cast d4
        omega
      rw [f2, dv_neg, hN, hkN]

end Go.Proofs.Qxb6621625a
