/- THE PLAIN MATHEMATICS OF FLOATS, third part: the four operations and the order, on words, by their values. No Go in sight. -/
import Derived.Test.Qxb6621625aRound
namespace Go.Proofs.Qxb6621625a
open Ieee

/-- The word stands for a number. -/
def F (x : Nat) : Prop := isFin (rd x) = true
/-- The value of a word. -/
def V (x : Nat) : Rat := dv (rd x)

theorem ab_dv (s : Bool) (m : Nat) (e : Int) : ab (dv (.number s m e)) = (m : Rat) * p2 e := by
  have h : (0 : Rat) ≤ (m : Rat) * p2 e := Rat.mul_nonneg Rat.natCast_nonneg (Rat.le_of_lt (p2_pos e))
  rw [dv_neg]
  cases s
  · simp only [Bool.false_eq_true, if_false]; exact ab_of_nonneg h
  · simp only [if_true]; rw [ab_neg]; exact ab_of_nonneg h

/-- What a rounded operation gives, v being the exact result. -/
def Rounds (o : Option Nat) (v : Rat) : Prop :=
  ∃ r, o = some r ∧ F r ∧ ab (V r - v) ≤ p2 (-53) * ab v + p2 (-1075) ∧ ∀ (j : Nat) (q : Int), j < 9007199254740992 → -1074 ≤ q → ab v = (j : Rat) * p2 q → V r = v

theorem rounds_write (s : Bool) (m : Nat) (e : Int) (v : Rat) (hv : dv (.number s m e) = v) (hb : ab v < p2 1000) : Rounds (some (double.write (.number s m e))) v := by
  subst hv
  have h := write_spec s m e (by rw [← ab_dv s m e]; exact hb)
  rw [← ab_dv s m e] at h
  exact ⟨_, rfl, h.1, h.2.1, h.2.2⟩

theorem fin_form {x : Nat} (h : F x) : ∃ s m e, rd x = .number s m e := by
  unfold F at h
  cases hr : rd x with
  | number s m e => exact ⟨s, m, e, rfl⟩
  | infinity s => rw [hr] at h; cases h
  | nan s t => rw [hr] at h; cases h

theorem mul_spec {x y : Nat} (hx : F x) (hy : F y) (hb : ab (V x * V y) < p2 1000) : Rounds (double.mul x y) (V x * V y) := by
  obtain ⟨s, m, i, h1⟩ := fin_form hx
  obtain ⟨t, n, j, h2⟩ := fin_form hy
  unfold V at *
  rw [h1, h2] at hb ⊢
  unfold rd at h1 h2
  rw [Format.mul, h1, h2]
  refine rounds_write (s ^^ t) (m * n) (i + j) _ ?_ hb
  simp only [dv_neg, p2_add, Rat.natCast_mul]
  cases s <;> cases t <;> simp <;> grind

theorem dv_signed (s : Bool) (m : Nat) (e base : Int) (h : base ≤ e) : dv (.number s m e) = ((signed s m (e - base).toNat : Int) : Rat) * p2 base := by
  have hp : p2 e = ((2 ^ (e - base).toNat : Nat) : Rat) * p2 base := by
    rw [← p2_nat, Int.toNat_of_nonneg (by omega), ← p2_add, show e - base + base = e by omega]
  rw [dv_neg, hp]
  unfold signed
  cases s
  · simp only [Bool.false_eq_true, if_false, Nat.shiftLeft_eq]
    rw [Rat.intCast_natCast, Rat.natCast_mul]; grind
  · simp only [if_true, Nat.shiftLeft_eq]
    rw [Rat.intCast_neg, Rat.intCast_natCast, Rat.natCast_mul]; grind

theorem dv_total (z : Int) (base : Int) (b : Bool) : dv (.number (if z = 0 then b else z < 0) z.natAbs base) = (z : Rat) * p2 base := by
  rw [dv_neg]
  by_cases h0 : z = 0
  · subst h0; simp
  · rw [if_neg h0]
    by_cases hn : z < 0
    · rw [if_pos (by simpa using hn)]
      have : ((z.natAbs : Nat) : Rat) = -(z : Rat) := by
        rw [← Rat.intCast_natCast, ← Rat.intCast_neg, show ((z.natAbs : Nat) : Int) = -z by omega]
      rw [this]; grind
    · rw [if_neg (by simpa using hn)]
      have : ((z.natAbs : Nat) : Rat) = (z : Rat) := by
        rw [← Rat.intCast_natCast, show ((z.natAbs : Nat) : Int) = z by omega]
      rw [this]

theorem sum_spec (s : Bool) (m : Nat) (i : Int) (t : Bool) (n : Nat) (j : Int) (hb : ab (dv (.number s m i) + dv (.number t n j)) < p2 1000) :
    Rounds (((Datum.number s m i).sum (.number t n j)).map double.write) (dv (.number s m i) + dv (.number t n j)) := by
  simp only [Datum.sum, Option.map_some]
  refine rounds_write _ _ _ _ ?_ hb
  rw [dv_total, Rat.intCast_add, dv_signed s m i (min i j) (by omega), dv_signed t n j (min i j) (by omega)]
  grind

theorem add_spec {x y : Nat} (hx : F x) (hy : F y) (hb : ab (V x + V y) < p2 1000) : Rounds (double.add x y) (V x + V y) := by
  obtain ⟨s, m, i, h1⟩ := fin_form hx
  obtain ⟨t, n, j, h2⟩ := fin_form hy
  unfold V at *
  rw [h1, h2] at hb ⊢
  unfold rd at h1 h2
  rw [Format.add, h1, h2]
  exact sum_spec s m i t n j hb

theorem dv_opp (t : Bool) (n : Nat) (j : Int) : dv (.number (!t) n j) = - dv (.number t n j) := by
  simp only [dv_neg]; cases t <;> simp
theorem sub_spec {x y : Nat} (hx : F x) (hy : F y) (hb : ab (V x - V y) < p2 1000) : Rounds (double.sub x y) (V x - V y) := by
  obtain ⟨s, m, i, h1⟩ := fin_form hx
  obtain ⟨t, n, j, h2⟩ := fin_form hy
  unfold V at *
  rw [h1, h2] at hb ⊢
  unfold rd at h1 h2
  rw [Format.sub, h1, h2]
  have e : dv (.number s m i) - dv (.number t n j) = dv (.number s m i) + dv (.number (!t) n j) := by rw [dv_opp]; grind
  rw [e] at hb ⊢
  exact sum_spec s m i (!t) n j hb

/-- The quotient, before it is written: off by at most 2^-54 of itself; exact where nothing is left over. -/
theorem quotient_near (s : Bool) (m : Nat) (i : Int) (t : Bool) (n : Nat) (j : Int) (hn : n ≠ 0) :
    ∃ M E, (Datum.number s m i).quotient 54 (.number t n j) = some (.number (s ^^ t) M E) ∧
      ab (dv (.number (s ^^ t) M E) - dv (.number s m i) / dv (.number t n j)) ≤ p2 (-54) * ab (dv (.number s m i) / dv (.number t n j)) ∧
      (ab (dv (.number s m i) / dv (.number t n j)) = 1 → dv (.number (s ^^ t) M E) = dv (.number s m i) / dv (.number t n j)) := by
  simp only [Datum.quotient]
  rw [if_neg hn]
  refine ⟨_, _, rfl, ?_⟩
  obtain ⟨more, hmore⟩ : ∃ k, 54 + n.log2 - m.log2 = k := ⟨_, rfl⟩
  rw [hmore, Nat.shiftLeft_eq]
  have hdm := Nat.div_add_mod (m * 2 ^ more) n
  have hml := Nat.mod_lt (m * 2 ^ more) (Nat.pos_of_ne_zero hn)
  have hnR : (0 : Rat) < (n : Rat) := Rat.natCast_pos.2 (Nat.pos_of_ne_zero hn)
  -- the exact quotient in the new unit
  obtain ⟨u, hu⟩ : ∃ u, p2 (i - j - more) = u := ⟨_, rfl⟩
  have hup : 0 < u := by rw [← hu]; exact p2_pos _
  have hu2 : p2 (i - j - more - 1) = u / 2 := by
    rw [← hu, show i - j - (more : Int) = (i - j - (more : Int) - 1) + 1 by omega, p2_add (i - j - (more : Int) - 1) 1]
    have : p2 1 = 2 := Rat.zpow_one 2
    rw [this, show i - j - (more : Int) - 1 + 1 - 1 = i - j - (more : Int) - 1 by omega]; grind
  obtain ⟨Q, hQ⟩ : ∃ Q : Rat, ((m * 2 ^ more : Nat) : Rat) / (n : Rat) = Q := ⟨_, rfl⟩
  have hQn : Q * (n : Rat) = ((m * 2 ^ more : Nat) : Rat) := by rw [← hQ]; exact Rat.div_mul_cancel (by grind)
  have hij : p2 i = ((2 ^ more : Nat) : Rat) * u * p2 j := by
    rw [← hu, ← p2_nat, ← p2_add, ← p2_add, show (more : Int) + (i - j - more) + j = i by omega]
  have hpj := p2_pos j
  have habs : (m : Rat) * p2 i / ((n : Rat) * p2 j) = Q * u := by
    have h1 : (m : Rat) * p2 i = Q * u * ((n : Rat) * p2 j) := by
      rw [hij]
      have := hQn
      rw [Rat.natCast_mul] at this
      grind
    rw [h1]
    exact Rat.mul_div_cancel (by have := Rat.mul_pos hnR hpj; grind)
  have hdiv : dv (.number s m i) / dv (.number t n j) = if (s ^^ t) then -(Q * u) else Q * u := by
    rw [← habs]
    simp only [dv_neg]
    have hne : (n : Rat) * p2 j ≠ 0 := by have := Rat.mul_pos hnR hpj; grind
    cases s <;> cases t <;> simp <;> grind
  have hQ0 : 0 ≤ Q := by
    have h1 : (0 : Rat) * n ≤ Q * n := by rw [hQn, Rat.zero_mul]; exact Rat.natCast_nonneg
    exact Rat.le_of_mul_le_mul_right h1 hnR
  have habQ : ab (dv (.number s m i) / dv (.number t n j)) = Q * u := by
    rw [hdiv]
    have := Rat.mul_nonneg hQ0 (Rat.le_of_lt hup)
    split
    · rw [ab_neg]; exact ab_of_nonneg this
    · exact ab_of_nonneg this
  -- the whole part and the sticky digit
  generalize hF : m * 2 ^ more / n = Fl at *
  generalize hr : m * 2 ^ more % n = rest at *
  have hQF : Q * n = (Fl : Rat) * n + (rest : Rat) := by
    rw [hQn, ← hdm, Rat.natCast_add, Rat.natCast_mul]; grind
  have hnear : ab (((2 * Fl + (rest != 0).toNat : Nat) : Rat) / 2 - Q) ≤ 1 / 2 ∧ (rest = 0 → ((2 * Fl + (rest != 0).toNat : Nat) : Rat) / 2 = Q) := by
    by_cases h0 : rest = 0
    · have hQe : Q = Fl := by
        have h1 : Q * n = (Fl : Rat) * n := by rw [hQF, h0, show ((0 : Nat) : Rat) = 0 from rfl]; grind
        grind
      rw [h0, hQe]
      simp only [bne_self_eq_false, Bool.toNat_false, Nat.add_zero, Rat.natCast_mul]
      constructor
      · rw [ab_le]; grind
      · intro _; grind
    · have hb : (rest != 0) = true := by simpa using h0
      rw [hb]
      simp only [Bool.toNat_true, Rat.natCast_add, Rat.natCast_mul]
      refine ⟨?_, fun h => absurd h h0⟩
      have h1 : (Fl : Rat) ≤ Q := Rat.le_of_mul_le_mul_right (c := (n : Rat)) (by rw [hQF]; have : (0 : Rat) ≤ (rest : Rat) := Rat.natCast_nonneg; grind) hnR
      have h2 : Q ≤ (Fl : Rat) + 1 := Rat.le_of_mul_le_mul_right (c := (n : Rat)) (by rw [hQF]; have : (rest : Rat) ≤ (n : Rat) := by exact_mod_cast Nat.le_of_lt hml
                                                                                      grind) hnR
      rw [ab_le]; grind
  have hval : dv (.number (s ^^ t) (2 * Fl + (rest != 0).toNat) (i - j - more - 1)) = if (s ^^ t) then -(((2 * Fl + (rest != 0).toNat : Nat) : Rat) / 2 * u) else ((2 * Fl + (rest != 0).toNat : Nat) : Rat) / 2 * u := by
    rw [dv_neg, hu2]
    split <;> grind
  have hdiff : ab (dv (.number (s ^^ t) (2 * Fl + (rest != 0).toNat) (i - j - more - 1)) - dv (.number s m i) / dv (.number t n j)) = ab (((2 * Fl + (rest != 0).toNat : Nat) : Rat) / 2 - Q) * u := by
    rw [hval, hdiv, ← ab_of_nonneg (Rat.le_of_lt hup), ← ab_mul, ab_of_nonneg (Rat.le_of_lt hup)]
    split
    · rw [← ab_neg]; congr 1; grind
    · congr 1; grind
  have hQbig : m ≠ 0 → p2 53 ≤ Q := fun hm => by
    have hbig : (2 : Nat) ^ 53 * n ≤ m * 2 ^ more := by
      have h1 : 2 ^ m.log2 ≤ m := Nat.log2_self_le hm
      have h2 : n < 2 ^ (n.log2 + 1) := Nat.lt_log2_self
      have h3 : 2 ^ (54 + n.log2) ≤ 2 ^ (m.log2 + more) := Nat.pow_le_pow_right (by omega) (by omega)
      rw [Nat.pow_add 2 m.log2] at h3
      have h4 : 2 ^ m.log2 * 2 ^ more ≤ m * 2 ^ more := Nat.mul_le_mul_right _ h1
      have h5 : 2 ^ 53 * n ≤ 2 ^ 53 * 2 ^ (n.log2 + 1) := Nat.mul_le_mul_left _ (by omega)
      rw [← Nat.pow_add, show 53 + (n.log2 + 1) = 54 + n.log2 by omega] at h5
      omega
    refine Rat.le_of_mul_le_mul_right (c := (n : Rat)) ?_ hnR
    rw [hQn, show (53 : Int) = ((53 : Nat) : Int) from rfl, p2_nat, ← Rat.natCast_mul]
    exact_mod_cast hbig
  have hm0 : m = 0 → Q = 0 := fun hm => by
    subst hm
    rw [← hQ, Nat.zero_mul, show ((0 : Nat) : Rat) = 0 from rfl, Rat.div_def, Rat.zero_mul]
  constructor
  · rw [hdiff, habQ]
    by_cases hm : m = 0
    · subst hm
      have hrest : rest = 0 := by rw [← hr]; simp
      have hF0 : Fl = 0 := by rw [← hF]; simp
      have hQ0' : Q = 0 := hm0 rfl
      rw [hrest, hF0, hQ0']
      have e0 : (((2 * 0 + ((0 : Nat) != 0).toNat : Nat) : Rat) / 2 - 0) = 0 := by
        show ((0 : Nat) : Rat) / 2 - 0 = 0
        rw [show ((0 : Nat) : Rat) = 0 from rfl]; grind
      rw [e0, ab_of_nonneg (Rat.le_refl)]
      grind
    · -- at least 54 digits
      have hQbig := hQbig hm
      have h54 : p2 (-54) * p2 53 = 1 / 2 := by
        rw [← p2_add]
        have : p2 (-54 + 53) = p2 (-1) := by rfl
        rw [this]
        show (2 : Rat) ^ (-1 : Int) = 1 / 2
        rw [Rat.zpow_neg, Rat.zpow_one]; grind
      have h6 := Rat.mul_le_mul_of_nonneg_left hQbig (Rat.le_of_lt (p2_pos (-54)))
      rw [h54] at h6
      have h7 : ab (((2 * Fl + (rest != 0).toNat : Nat) : Rat) / 2 - Q) ≤ p2 (-54) * Q := by have := hnear.1; grind
      have h8 := Rat.mul_le_mul_of_nonneg_right h7 (Rat.le_of_lt hup)
      grind
  · intro h1
    rw [habQ] at h1
    have hm : m ≠ 0 := fun h => by
      rw [hm0 h] at h1
      grind
    have hQb := hQbig hm
    -- the quotient is a power of two, and whole
    have hQp : Q = p2 (-(i - j - more)) := by
      have h2 : p2 (-(i - j - more)) * u = 1 := by rw [← hu, ← p2_add, show -(i - j - (more : Int)) + (i - j - more) = 0 by omega, p2_zero]
      grind
    have hexp : 0 ≤ -(i - j - (more : Int)) := by
      rw [hQp] at hQb
      have h3 : p2 52 < p2 53 := by
        have : p2 53 = p2 52 * 2 := by
          rw [show (53 : Int) = 52 + 1 by decide, p2_add]
          have : p2 1 = 2 := Rat.zpow_one 2
          rw [this]
        have := p2_pos 52
        grind
      have h4 : p2 52 < p2 (-(i - j - (more : Int))) := by grind
      have := p2_lt h4
      omega
    obtain ⟨N, hN⟩ : ∃ N : Nat, Q = (N : Rat) := ⟨_, hQp.trans (p2_toNat hexp)⟩
    have hrest : rest = 0 := by
      have h2 : ((N * n : Nat) : Rat) = ((n * Fl + rest : Nat) : Rat) := by
        rw [Rat.natCast_mul, ← hN, hQF, Rat.natCast_add, Rat.natCast_mul]; grind
      have h3 : N * n = n * Fl + rest := by exact_mod_cast h2
      have h4 : (n * Fl + rest) % n = 0 := by rw [← h3]; exact Nat.mul_mod_left N n
      rw [Nat.mul_add_mod, Nat.mod_eq_of_lt hml] at h4
      exact h4
    rw [hval, hdiv, hnear.2 hrest]

theorem p2_m54 : p2 (-53) = 2 * p2 (-54) := by
  rw [show (-53 : Int) = 1 + -54 by decide, p2_add]
  have : p2 1 = 2 := Rat.zpow_one 2
  rw [this]

/-- Division, by a word that is not 0. -/
theorem div_spec {x y : Nat} (hx : F x) (hy : F y) (hy0 : V y ≠ 0) (hb : ab (V x / V y) < p2 999) :
    ∃ r, double.div x y = some r ∧ F r ∧ ab (V r - V x / V y) ≤ p2 (-52) * ab (V x / V y) + p2 (-1075) ∧ (ab (V x / V y) = 1 → V r = V x / V y) := by
  obtain ⟨s, m, i, h1⟩ := fin_form hx
  obtain ⟨t, n, j, h2⟩ := fin_form hy
  unfold V at *
  rw [h1, h2] at hb ⊢
  rw [h2] at hy0
  unfold rd at h1 h2
  have hn : n ≠ 0 := fun h => hy0 (by subst h; rw [dv_neg, show ((0 : Nat) : Rat) = 0 from rfl]; split <;> grind)
  obtain ⟨M, E, hq, hnear, hex⟩ := quotient_near s m i t n j hn
  rw [Format.div, h1, h2, show double.fractionBits + 2 = 54 from rfl, hq, Option.map_some]
  generalize dv (.number s m i) / dv (.number t n j) = v at *
  obtain ⟨a, ha⟩ : ∃ a, dv (.number (s ^^ t) M E) = a := ⟨_, rfl⟩
  rw [ha] at hnear hex
  have hav := ab_nonneg v
  have p54 : p2 (-54) ≤ 1 / 4 := by
    have h := p2_mono (show (-54 : Int) ≤ -2 by decide)
    have h4 : p2 2 = 4 := by decide
    have : p2 (-2) * p2 2 = 1 := by rw [← p2_add]; exact p2_zero
    rw [h4] at this
    grind
  have hle : p2 (-54) * ab v ≤ ab v := by
    have := Rat.mul_le_mul_of_nonneg_right p54 hav
    grind
  have haa : ab a ≤ ab v + p2 (-54) * ab v := by
    have h3 := ab_add v (a - v)
    rw [show v + (a - v) = a by grind] at h3
    grind
  have h1000 : p2 1000 = 2 * p2 999 := by
    rw [show (1000 : Int) = 1 + 999 by decide, p2_add]
    have : p2 1 = 2 := Rat.zpow_one 2
    rw [this]
  obtain ⟨r, hr, hf, herr, hexact⟩ := rounds_write (s ^^ t) M E a ha (by grind)
  refine ⟨r, hr, hf, ?_, fun hv1 => ?_⟩
  · have h4 := ab_add (dv (rd r) - a) (a - v)
    rw [show dv (rd r) - a + (a - v) = dv (rd r) - v by grind] at h4
    unfold V at herr
    have h5 : p2 (-53) * ab a ≤ p2 (-53) * (ab v + p2 (-54) * ab v) := Rat.mul_le_mul_of_nonneg_left haa (Rat.le_of_lt (p2_pos (-53)))
    have e53 := p2_m54
    have e52 : p2 (-52) = 4 * p2 (-54) := by
      rw [show (-52 : Int) = 2 + -54 by decide, p2_add]
      have : p2 2 = 4 := by decide
      rw [this]
    rw [e53] at herr h5
    rw [e52]
    have h6 : p2 (-54) * (p2 (-54) * ab v) ≤ 1 / 4 * (p2 (-54) * ab v) := Rat.mul_le_mul_of_nonneg_right p54 (Rat.mul_nonneg (Rat.le_of_lt (p2_pos (-54))) hav)
    have h7 : 0 ≤ p2 (-54) * ab v := Rat.mul_nonneg (Rat.le_of_lt (p2_pos (-54))) hav
    grind
  · have hva := hex hv1
    rw [hva] at hexact
    refine hexact 1 0 (by decide) (by decide) ?_
    rw [hv1, p2_zero, Rat.mul_one]; rfl

/-! ### The order -/
theorem fin_notNaN {x : Nat} (h : F x) : (rd x).isNaN = false := by
  obtain ⟨s, m, e, h1⟩ := fin_form h
  rw [h1]; rfl

theorem order_form {x y : Nat} (hx : F x) (hy : F y) : ∃ (a b : Int) (base : Int), double.order x y = some (compare a b) ∧ V x = (a : Rat) * p2 base ∧ V y = (b : Rat) * p2 base := by
  obtain ⟨s, m, i, h1⟩ := fin_form hx
  obtain ⟨t, n, j, h2⟩ := fin_form hy
  unfold V
  rw [h1, h2]
  unfold rd at h1 h2
  refine ⟨signed s m (i - min i j).toNat, signed t n (j - min i j).toNat, min i j, ?_, dv_signed s m i _ (by omega), dv_signed t n j _ (by omega)⟩
  rw [Format.order, h1, h2]
  rfl

theorem lt_of_scaled {a b : Int} {base : Int} : ((a : Rat) * p2 base < (b : Rat) * p2 base) ↔ a < b := by
  rw [Rat.mul_lt_mul_right (p2_pos base)]
  exact Rat.intCast_lt_intCast

theorem order_eq {x y : Nat} (hx : F x) (hy : F y) : double.order x y = some .eq ↔ V x = V y := by
  obtain ⟨a, b, base, h1, h2, h3⟩ := order_form hx hy
  rw [h1, h2, h3]
  constructor
  · intro h
    have : a = b := by simpa using h
    rw [this]
  · intro h
    have h5 : ¬ a < b := fun hl => by have := (lt_of_scaled (base := base)).2 hl; rw [h] at this; exact Rat.lt_irrefl this
    have h6 : ¬ b < a := fun hl => by have := (lt_of_scaled (base := base)).2 hl; rw [h] at this; exact Rat.lt_irrefl this
    obtain rfl : a = b := by omega
    simp

theorem order_lt {x y : Nat} (hx : F x) (hy : F y) : double.order x y = some .lt ↔ V x < V y := by
  obtain ⟨a, b, base, h1, h2, h3⟩ := order_form hx hy
  rw [h1, h2, h3, lt_of_scaled]
  simp [Int.compare_eq_lt]

theorem order_gt {x y : Nat} (hx : F x) (hy : F y) : double.order x y = some .gt ↔ V y < V x := by
  obtain ⟨a, b, base, h1, h2, h3⟩ := order_form hx hy
  rw [h1, h2, h3, lt_of_scaled]
  simp [Int.compare_eq_gt]

end Go.Proofs.Qxb6621625a
