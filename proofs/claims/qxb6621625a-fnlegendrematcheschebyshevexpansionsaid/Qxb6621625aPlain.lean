/- THE PLAIN MATHEMATICS OF FLOATS, fifth part: what the law's own tests see. No Go in sight. -/
import Derived.Test.Qxb6621625aSpec
import Derived.Laws.FloatArith
namespace Go.Proofs.Qxb6621625a
open Ieee

/-! ### Exactness up to the greatest number -/
theorem write_exact (s : Bool) (m : Nat) (e : Int) (j : Nat) (q : Int) (hj : j < 9007199254740992) (hq : -1074 ≤ q) (hv : (m : Rat) * p2 e = (j : Rat) * p2 q) (hb : (m : Rat) * p2 e < p2 1024) :
    isFin (rd (double.write (.number s m e))) = true ∧ dv (rd (double.write (.number s m e))) = dv (.number s m e) := by
  by_cases h0 : m = 0
  · subst h0
    have hb' : ((0 : Nat) : Rat) * p2 e < p2 1000 := by
      rw [show ((0 : Nat) : Rat) = 0 from rfl, Rat.zero_mul]; exact p2_pos _
    have h := write_spec s 0 e hb'
    exact ⟨h.1, h.2.2 j q hj hq hv⟩
  · unfold rd
    simp only [Format.write, nearest_eq]
    obtain ⟨last, kept, l1, k1, k2, hR, c1, c2, lo, hi⟩ := rung_core m e h0
    have hj0 : j ≠ 0 := fun h => by
      subst h
      have h1 : (0 : Rat) < (m : Rat) * p2 e := Rat.mul_pos (Rat.natCast_pos.2 (by omega)) (p2_pos e)
      rw [hv] at h1
      simp at h1
    have hlq : last ≤ q := by
      rcases lo with h | h
      · omega
      · have h1 : (j : Rat) * p2 q < p2 (53 + q) := by
          rw [p2_add, show (53 : Int) = ((53 : Nat) : Int) from rfl, p2_nat]
          refine Rat.mul_lt_mul_of_pos_right ?_ (p2_pos q)
          have : j < 2 ^ 53 := by omega
          exact_mod_cast this
        rw [hv] at h
        have h2 : p2 (last + 52) < p2 (53 + q) := by grind
        have := p2_lt h2
        omega
    have hN : (m : Rat) * p2 e = ((j * 2 ^ (q - last).toNat : Nat) : Rat) * p2 last := by
      rw [hv, Rat.natCast_mul, Rat.mul_assoc, ← p2_nat, Int.toNat_of_nonneg (by omega), ← p2_add, show q - last + last = q by omega]
    have hpl := p2_pos last
    have hkN : kept = j * 2 ^ (q - last).toNat := by
      generalize j * 2 ^ (q - last).toNat = N at hN
      rw [hN] at c1 c2
      have d1 : ((2 * kept : Nat) : Rat) * p2 last ≤ ((2 * N + 1 : Nat) : Rat) * p2 last := by
        simp only [Rat.natCast_mul, Rat.natCast_add]; grind
      have d2 : ((2 * N : Nat) : Rat) * p2 last ≤ ((2 * kept + 1 : Nat) : Rat) * p2 last := by
        simp only [Rat.natCast_mul, Rat.natCast_add]; grind
      have d3 := Rat.le_of_mul_le_mul_right d1 hpl
      have d4 := Rat.le_of_mul_le_mul_right d2 hpl
      have d5 : 2 * kept ≤ 2 * N + 1 := by exact_mod_cast d3
      have d6 : 2 * N ≤ 2 * kept + 1 := by exact_mod_cast d4
      omega
    rw [← hkN] at hN
    have hlt : last = -1074 ∨ last ≤ 971 := by
      rcases lo with h | h
      · exact .inl h
      · have h1 : p2 (last + 52) < p2 1024 := by grind
        have := p2_lt h1
        omega
    have hk971 : last = 971 → kept < 9007199254740992 := fun h => by
      rw [h] at hN
      rw [hN] at hb
      by_cases hk : kept < 9007199254740992
      · exact hk
      · exfalso
        have hk' : kept = 9007199254740992 := by omega
        rw [hk', show ((9007199254740992 : Nat) : Rat) = p2 53 by rw [show (53 : Int) = ((53 : Nat) : Int) from rfl, p2_nat], ← p2_add] at hb
        exact Rat.lt_irrefl hb
    have hRlt : (last + 1074).toNat * 4503599627370496 + kept < 9218868437227405312 := by
      by_cases h971 : last = 971
      · have := hk971 h971; omega
      · omega
    rw [Nat.min_eq_left (by omega)] at hR
    rw [hR, read_word double s _ (by rw [sw_eq]; omega)]
    obtain ⟨f1, f2⟩ := mk_fin s _ hRlt
    rw [rv_of last kept l1 k1 k2] at f2
    exact ⟨f1, by rw [f2, dv_neg, hN]⟩

/-- What a number read off a word is like. -/
theorem read_bounds {x : Nat} {s : Bool} {m : Nat} {e : Int} (h : rd x = .number s m e) : m < 9007199254740992 ∧ -1074 ≤ e ∧ (m : Rat) * p2 e < p2 1024 := by
  unfold rd Format.read at h
  simp only [binade_eq, infRung_eq, lp_eq, sw_eq] at h
  split at h
  · rename_i h1
    cases h
    refine ⟨by omega, by omega, ?_⟩
    have h2 := lt_log2 (x % 9223372036854775808) (-1074)
    have h3 : (x % 9223372036854775808).log2 ≤ 63 := by
      by_cases h0 : x % 9223372036854775808 = 0
      · rw [h0]; decide
      · have := Nat.log2_self_le h0
        by_cases hl : (x % 9223372036854775808).log2 ≤ 63
        · exact hl
        · have h4 : 2 ^ 63 ≤ 2 ^ (x % 9223372036854775808).log2 := Nat.pow_le_pow_right (by omega) (by omega)
          omega
    have h4 := p2_mono (show (-1074 : Int) + (x % 9223372036854775808).log2 + 1 ≤ 1024 by omega)
    grind
  · split at h
    · rename_i h1 h2
      cases h
      refine ⟨by omega, by omega, ?_⟩
      have h3 : ((4503599627370496 + x % 9223372036854775808 % 4503599627370496 : Nat) : Rat) < p2 53 := by
        rw [show (53 : Int) = ((53 : Nat) : Int) from rfl, p2_nat]
        have : 4503599627370496 + x % 9223372036854775808 % 4503599627370496 < 2 ^ 53 := by omega
        exact_mod_cast this
      have h4 := Rat.mul_lt_mul_of_pos_right h3 (p2_pos (-1074 + (x % 9223372036854775808 / 4503599627370496 - 1 : Nat)))
      rw [← p2_add] at h4
      have h5 := p2_mono (show (53 : Int) + (-1074 + (x % 9223372036854775808 / 4503599627370496 - 1 : Nat)) ≤ 1024 by omega)
      grind
    · split at h <;> cases h

/-! ### The sign of the sum's law: 1 or -1 times a word -/
theorem rd_one : rd one = .number false 4503599627370496 (-52) := by decide
theorem rd_mone : rd mone = .number true 4503599627370496 (-52) := by decide
def sgW (k : Nat) : Nat := if k % 2 = 1 then mone else one
theorem rd_sgW (k : Nat) : rd (sgW k) = .number (k % 2 == 1) 4503599627370496 (-52) := by
  unfold sgW
  split
  · rename_i h; rw [rd_mone, h]; rfl
  · rename_i h; rw [rd_one, show k % 2 = 0 by omega]; rfl

/-- A word x, and y that is x with its sign turned by s: as the order sees it. -/
def eqD (s : Bool) : Datum → Datum → Prop
  | .number a m e, .number b n f => dv (.number b n f) = if s then - dv (.number a m e) else dv (.number a m e)
  | .infinity a, .infinity b => b = (a ^^ s)
  | _, _ => False

theorem mul_sg (k : Nat) {x : Nat} (hx : nanB x = false) : ∃ r, double.mul (sgW k) x = some r ∧ eqD (k % 2 == 1) (rd x) (rd r) := by
  have hs := rd_sgW k
  unfold nanB at hx
  cases hr : rd x with
  | nan => rw [hr] at hx; cases hx
  | infinity a =>
    unfold rd at hs hr
    rw [Format.mul, hs, hr]
    refine ⟨_, rfl, ?_⟩
    simp only [Format.write, rd]
    rw [read_word double _ _ double.infRung_lt]
    have : mk double (a ^^ (k % 2 == 1)) double.infRung = .infinity (a ^^ (k % 2 == 1)) := by
      unfold mk
      rw [if_neg (by rw [infRung_eq, binade_eq]; decide), if_neg (Nat.lt_irrefl _), if_pos rfl]
    rw [this]
    rfl
  | number a m e =>
    obtain ⟨hm, he, hb⟩ := read_bounds hr
    have hr' := hr
    unfold rd at hs hr
    rw [Format.mul, hs, hr]
    refine ⟨_, rfl, ?_⟩
    have h52 : ((4503599627370496 : Nat) : Rat) * p2 (-52) = 1 := by
      rw [show ((4503599627370496 : Nat) : Rat) = p2 52 by rw [show (52 : Int) = ((52 : Nat) : Int) from rfl, p2_nat], ← p2_add]; exact p2_zero
    have hval : ((4503599627370496 * m : Nat) : Rat) * p2 (-52 + e) = (m : Rat) * p2 e := by
      rw [Rat.natCast_mul, p2_add]; grind
    have hw := write_exact ((k % 2 == 1) ^^ a) (4503599627370496 * m) (-52 + e) m e hm he hval (by rw [hval]; exact hb)
    obtain ⟨s', m', e', hf⟩ : ∃ s m' e', rd (double.write (.number ((k % 2 == 1) ^^ a) (4503599627370496 * m) (-52 + e))) = .number s m' e' := fin_form hw.1
    have h2 := hw.2
    rw [hf] at h2 ⊢
    show dv (.number s' m' e') = if (k % 2 == 1) then - dv (.number a m e) else dv (.number a m e)
    rw [h2, dv_neg, dv_neg, hval]
    cases (k % 2 == 1) <;> cases a <;> simp

theorem eqD_of_relS {s : Bool} {x y : Nat} (h : relS s x y) (hn : nanB x = false) : eqD s (rd x) (rd y) := by
  unfold relS at h
  unfold nanB at hn
  revert h hn
  cases rd x with
  | number a m e =>
    intro h hn
    cases hy : rd y with
    | number b n f =>
      rw [hy] at h
      obtain ⟨rfl, rfl, h3⟩ := h
      show dv (.number b m e) = if s then - dv (.number a m e) else dv (.number a m e)
      rcases h3 with rfl | rfl
      · simp only [dv_neg, show ((0 : Nat) : Rat) = 0 from rfl]
        cases s <;> cases a <;> cases b <;> simp
      · simp only [dv_neg]
        cases s <;> cases a <;> simp
    | infinity => rw [hy] at h; exact h.elim
    | nan => rw [hy] at h; exact h.elim
  | infinity a =>
    intro h hn
    cases hy : rd y with
    | number => rw [hy] at h; exact h.elim
    | infinity b => rw [hy] at h; exact h
    | nan => rw [hy] at h; exact h.elim
  | nan => intro h hn; cases hn

/-- Two words that stand alike to a third are equal, as the order sees it. -/
theorem order_of_eqD {s : Bool} {d : Datum} {x y : Nat} (hx : eqD s d (rd x)) (hy : eqD s d (rd y)) : double.order x y = some .eq := by
  cases d with
  | number a m e =>
    cases hrx : rd x with
    | number b n f =>
      cases hry : rd y with
      | number c l g =>
        have fx : F x := by unfold F; rw [hrx]; rfl
        have fy : F y := by unfold F; rw [hry]; rfl
        rw [order_eq fx fy]
        unfold V
        rw [hrx] at hx ⊢
        rw [hry] at hy ⊢
        exact Eq.trans hx hy.symm
      | infinity => rw [hry] at hy; exact hy.elim
      | nan => rw [hry] at hy; exact hy.elim
    | infinity => rw [hrx] at hx; exact hx.elim
    | nan => rw [hrx] at hx; exact hx.elim
  | infinity a =>
    cases hrx : rd x with
    | infinity b =>
      cases hry : rd y with
      | infinity c =>
        rw [hrx] at hx
        rw [hry] at hy
        have hbc : b = c := Eq.trans hx hy.symm
        subst hbc
        unfold rd at hrx hry
        rw [Format.order, hrx, hry]
        simp [Datum.order]
      | number => rw [hry] at hy; exact hy.elim
      | nan => rw [hry] at hy; exact hy.elim
    | number => rw [hrx] at hx; exact hx.elim
    | nan => rw [hrx] at hx; exact hx.elim
  | nan => exact hx.elim

/-! ### NaNs and the order -/
theorem order_nan_left {x : Nat} (y : Nat) (h : nanB x = true) : double.order x y = none := by
  unfold nanB rd at h
  unfold Format.order
  cases hx : double.read x with
  | nan => rfl
  | number => rw [hx] at h; cases h
  | infinity => rw [hx] at h; cases h
theorem order_self {x : Nat} (h : nanB x = false) : double.order x x = some .eq := by
  cases hx : rd x with
  | nan => unfold nanB at h; rw [hx] at h; cases h
  | number a m e =>
    have : F x := by unfold F; rw [hx]; rfl
    exact (order_eq this this).2 rfl
  | infinity a =>
    unfold rd at hx
    rw [Format.order, hx]
    simp [Datum.order]
/-- Equal to a number, so a number. -/
theorem fin_of_eq {x y : Nat} (hy : F y) (h : double.order x y = some .eq) : F x ∧ V x = V y := by
  obtain ⟨t, n, j, h2⟩ := fin_form hy
  have fx : F x := by
    unfold F
    cases hx : rd x with
    | number => rfl
    | nan => rw [order_nan_left y (by unfold nanB; rw [hx]; rfl)] at h; cases h
    | infinity a =>
      exfalso
      unfold rd at hx h2
      rw [Format.order, hx, h2] at h
      simp only [Datum.order] at h
      cases a <;> simp at h
  exact ⟨fx, (order_eq fx hy).1 h⟩

/-- zzB1Same. -/
def sameB (x y : Nat) : Bool := if (double.order x x != some .eq) = true then (double.order y y != some .eq) else (double.order x y == some .eq)
theorem same_nan {x y : Nat} (hx : nanB x = true) (hy : nanB y = true) : sameB x y = true := by
  unfold sameB
  rw [order_nan_left x hx, order_nan_left y hy]; rfl
theorem same_num {x y : Nat} (hx : nanB x = false) (h : double.order x y = some .eq) : sameB x y = true := by
  unfold sameB
  rw [order_self hx, h]; rfl
theorem same_cn {x y : Nat} (h : cn x = cn y) : sameB x y = true := by
  unfold cn at h
  by_cases hx : nanB x = true
  · by_cases hy : nanB y = true
    · exact same_nan hx hy
    · rw [if_pos hx, if_neg hy] at h; cases h
  · by_cases hy : nanB y = true
    · rw [if_neg hx, if_pos hy] at h; cases h
    · rw [if_neg hx, if_neg hy] at h
      obtain rfl := Option.some.inj h
      exact same_num (by simpa using hx) (order_self (by simpa using hx))

/-! ### The negative -/
theorem xor_top (x : Nat) (h : x < 18446744073709551616) : x ^^^ 9223372036854775808 = if x < 9223372036854775808 then x + 9223372036854775808 else x - 9223372036854775808 := by
  have key : ∀ y, y < 9223372036854775808 → y ^^^ 9223372036854775808 = y + 9223372036854775808 := by
    intro y hy
    have h1 : 9223372036854775808 = 2 ^ 63 := by decide
    have h2 := Nat.two_pow_add_eq_or_of_lt (i := 63) (b := y) (by rw [← h1]; exact hy) 1
    rw [Nat.mul_one, ← h1] at h2
    rw [Nat.add_comm, h2]
    apply Nat.eq_of_testBit_eq
    intro i
    rw [Nat.testBit_xor, Nat.testBit_or]
    have h3 : Nat.testBit 9223372036854775808 i = decide (63 = i) := by rw [h1]; exact Nat.testBit_two_pow
    rw [h3]
    by_cases hi : 63 = i
    · subst hi
      have : y.testBit 63 = false := Nat.testBit_lt_two_pow (by rw [← h1]; exact hy)
      rw [this]; rfl
    · simp [hi]
  split
  · rename_i hx; exact key x hx
  · rename_i hx
    have h4 := key (x - 9223372036854775808) (by omega)
    have h5 : x = (x - 9223372036854775808) ^^^ 9223372036854775808 := by rw [h4]; omega
    conv => lhs; rw [h5]
    rw [Nat.xor_assoc, Nat.xor_self, Nat.xor_zero]

theorem rd_neg (x : Nat) (h : x < 18446744073709551616) : rd (Op.negFloat .f64 x) = (rd x).opposite := by
  have e : Op.negFloat .f64 x = x ^^^ 9223372036854775808 := rfl
  rw [e, xor_top x h]
  have hw : x = double.word (decide (9223372036854775808 ≤ x)) (x % 9223372036854775808) := by
    unfold Format.word
    rw [sw_eq]
    by_cases hx : 9223372036854775808 ≤ x
    · simp [hx]; omega
    · simp [hx]; omega
  have hn : (if x < 9223372036854775808 then x + 9223372036854775808 else x - 9223372036854775808) = double.word (!decide (9223372036854775808 ≤ x)) (x % 9223372036854775808) := by
    unfold Format.word
    rw [sw_eq]
    by_cases hx : 9223372036854775808 ≤ x
    · rw [if_neg (by omega)]; simp [hx]; omega
    · rw [if_pos (by omega)]; simp [hx]; omega
  unfold rd
  rw [hn]
  conv => rhs; rw [hw]
  rw [read_word double _ _ (by rw [sw_eq]; omega), read_word double _ _ (by rw [sw_eq]; omega)]
  unfold mk
  split
  · rfl
  · split
    · rfl
    · split <;> rfl

theorem neg_nRel (x : Nat) (h : x < 18446744073709551616) : nRel true (cn x) (cn (Op.negFloat .f64 x)) := by
  have h1 := rd_neg x h
  have h2 : nanB (Op.negFloat .f64 x) = nanB x := by unfold nanB; rw [h1]; cases rd x <;> rfl
  unfold cn
  rw [h2]
  by_cases hn : nanB x = true
  · rw [if_pos hn, if_pos hn]; trivial
  · rw [if_neg hn, if_neg hn]
    refine ⟨?_, by simpa using hn⟩
    unfold relS
    rw [h1]
    cases rd x with
    | number s m e => exact ⟨rfl, rfl, .inr (by simp)⟩
    | infinity s => show (!s) = (s ^^ true); simp
    | nan => trivial


/-! ### What the law's tests see -/
theorem cn_some {x y : Nat} (h : cn x = some y) : x = y ∧ nanB x = false := by
  unfold cn at h
  by_cases hn : nanB x = true
  · rw [if_pos hn] at h; cases h
  · rw [if_neg hn] at h; exact ⟨Option.some.inj h, by simpa using hn⟩
theorem cn_none {x : Nat} (h : cn x = none) : nanB x = true := by
  unfold cn at h
  by_cases hn : nanB x = true
  · exact hn
  · rw [if_neg hn] at h; cases h
theorem cn_of {x : Nat} (h : nanB x = false) : cn x = some x := by unfold cn; rw [if_neg (by simp [h])]
theorem cn_F {x : Nat} (h : F x) : cn x = some x := cn_of (nanB_of_F h)

/-- legendre at -t, against the sign times legendre at t: a number. -/
theorem see_sym {t e o k : Nat} (ht : t < 18446744073709551616) (hk : k ≤ 4096) (he : cn e = leg (cn t) k) (ho : cn o = leg (cn (Op.negFloat .f64 t)) k) :
    (nanB e = true ∧ nanB o = true) ∨ (nanB e = false ∧ ∃ r, double.mul (sgW k) e = some r ∧ sameB o r = true) := by
  have h := (leg_sym (neg_nRel t ht) k hk).1
  rw [Bool.true_and, ← he, ← ho] at h
  by_cases hn : nanB e = true
  · left
    refine ⟨hn, ?_⟩
    have : cn e = none := by unfold cn; rw [if_pos hn]
    rw [this] at h
    cases hc : cn o with
    | none => exact cn_none hc
    | some y => rw [hc] at h; exact h.elim
  · right
    have hn' : nanB e = false := by simpa using hn
    refine ⟨hn', ?_⟩
    rw [cn_of hn'] at h
    cases hc : cn o with
    | none => rw [hc] at h; exact h.elim
    | some y =>
      rw [hc] at h
      obtain ⟨rfl, hno⟩ := cn_some hc
      obtain ⟨r, hr, hd⟩ := mul_sg k hn'
      exact ⟨r, hr, same_num hno (order_of_eqD (eqD_of_relS h.1 hn') hd)⟩

theorem val_sgW (k : Nat) : F (sgW k) ∧ V (sgW k) = sg (-1) k := by
  unfold sgW sg
  split
  · exact val_mone
  · exact val_one
theorem see_one {t e k : Nat} (hk : k ≤ 4096) (ht : double.order t one = some .eq) (he : cn e = leg (cn t) k) : double.order e one = some .eq := by
  obtain ⟨ft, vt⟩ := fin_of_eq val_one.1 ht
  rw [cn_F ft] at he
  obtain ⟨x, h1, h2, h3⟩ := (leg_pm (.inl rfl) ft (vt.trans val_one.2) k hk).1
  rw [h1] at he
  obtain ⟨rfl, _⟩ := cn_some he
  rw [order_eq h2 val_one.1, h3, val_one.2]
  unfold sg; split <;> rfl
theorem see_mone {t e k : Nat} (hk : k ≤ 4096) (ht : double.order t mone = some .eq) (he : cn e = leg (cn t) k) : double.order e (sgW k) = some .eq := by
  obtain ⟨ft, vt⟩ := fin_of_eq val_mone.1 ht
  rw [cn_F ft] at he
  obtain ⟨x, h1, h2, h3⟩ := (leg_pm (.inr rfl) ft (vt.trans val_mone.2) k hk).1
  rw [h1] at he
  obtain ⟨rfl, _⟩ := cn_some he
  rw [order_eq h2 (val_sgW k).1, h3, (val_sgW k).2]
theorem val_zero : F 0 ∧ V 0 = 0 := by
  have e : rd 0 = .number false 0 (-1074) := by decide
  refine ⟨by unfold F; rw [e]; rfl, ?_⟩
  unfold V
  rw [e, dv_neg]; simp
theorem see_zero {t e k : Nat} (hk : k ≤ 4096) (hodd : k % 2 = 1) (ht : double.order t 0 = some .eq) (he : cn e = leg (cn t) k) : double.order e 0 = some .eq := by
  obtain ⟨ft, vt⟩ := fin_of_eq val_zero.1 ht
  have vt0 : V t = 0 := vt.trans val_zero.2
  rw [cn_F ft] at he
  obtain ⟨x, h1, h2, _⟩ := (leg_zero ft vt0 k hk).1
  have hrel : nRel true (some t) (some t) := by
    refine ⟨?_, nanB_of_F ft⟩
    obtain ⟨s, m, q, hr⟩ := fin_form ft
    unfold relS
    unfold V at vt0
    rw [hr] at vt0 ⊢
    refine ⟨rfl, rfl, .inl ?_⟩
    have h3 : ab (dv (.number s m q)) = 0 := by rw [vt0]; exact ab_of_nonneg (Rat.le_refl)
    rw [ab_dv] at h3
    by_cases hm : m = 0
    · exact hm
    · have := Rat.mul_pos (Rat.natCast_pos.2 (Nat.pos_of_ne_zero hm)) (p2_pos q)
      rw [h3] at this
      exact absurd this Rat.lt_irrefl
  have hs := (leg_sym hrel k hk).1
  rw [h1, hodd] at hs
  rw [h1] at he
  obtain ⟨rfl, _⟩ := cn_some he
  rw [order_eq h2 val_zero.1, val_zero.2]
  obtain ⟨s, m, q, hr⟩ := fin_form h2
  have hd := hs.1
  unfold relS at hd
  unfold V
  rw [hr] at hd ⊢
  rcases hd.2.2 with h0 | h0
  · rw [h0, dv_neg, show ((0 : Nat) : Rat) = 0 from rfl]; split <;> grind
  · cases s <;> simp at h0

end Go.Proofs.Qxb6621625a
