/- THE ROUNDING ERRORS of both recurrences, of the weights and of the sum. No Go in sight. -/
import Derived.Test.Qxb6621625aStab
import Derived.Test.Qxb6621625aSpec
namespace Go.Proofs.Qxb6621625a
open Ieee

/-- The unit of rounding, and the least one. -/
def uu : Rat := p2 (-53)
def ee : Rat := p2 (-1075)
theorem uu_eq : uu * 9007199254740992 = 1 := by
  have h : p2 53 = 9007199254740992 := by rw [show (53 : Int) = ((53 : Nat) : Int) from rfl, p2_nat]; rfl
  rw [← h]; unfold uu; rw [← p2_add]; exact p2_zero
theorem uu_pos : 0 < uu := p2_pos _
theorem ee_pos : 0 < ee := p2_pos _
theorem ee_le : ee * 1048576 ≤ uu := by
  have h : p2 20 = 1048576 := by rw [show (20 : Int) = ((20 : Nat) : Int) from rfl, p2_nat]; rfl
  rw [← h]; unfold uu ee; rw [← p2_add]; exact p2_mono (by decide)
theorem two_uu : p2 (-52) = 2 * uu := by
  unfold uu
  rw [show (-52 : Int) = 1 + -53 by decide, p2_add]
  have : p2 1 = 2 := Rat.zpow_one 2
  rw [this]

theorem Rounds.err {o : Option Nat} {v B : Rat} (h : Rounds o v) (hv : ab v ≤ B) : ∃ r, o = some r ∧ F r ∧ ab (V r - v) ≤ uu * B + ee := by
  obtain ⟨r, h1, h2, h3, _⟩ := h
  refine ⟨r, h1, h2, Rat.le_trans h3 ?_⟩
  have := Rat.mul_le_mul_of_nonneg_left hv (Rat.le_of_lt uu_pos)
  unfold uu ee at *
  grind
theorem mul_err {x y : Nat} {B : Rat} (hx : F x) (hy : F y) (hv : ab (V x * V y) ≤ B) (hB : B ≤ 1073741824) : ∃ r, double.mul x y = some r ∧ F r ∧ ab (V r - V x * V y) ≤ uu * B + ee :=
  (mul_spec hx hy (lt_1000 (small_900 (Rat.le_trans hv hB)))).err hv
theorem add_err {x y : Nat} {B : Rat} (hx : F x) (hy : F y) (hv : ab (V x + V y) ≤ B) (hB : B ≤ 1073741824) : ∃ r, double.add x y = some r ∧ F r ∧ ab (V r - (V x + V y)) ≤ uu * B + ee :=
  (add_spec hx hy (lt_1000 (small_900 (Rat.le_trans hv hB)))).err hv
theorem sub_err {x y : Nat} {B : Rat} (hx : F x) (hy : F y) (hv : ab (V x - V y) ≤ B) (hB : B ≤ 1073741824) : ∃ r, double.sub x y = some r ∧ F r ∧ ab (V r - (V x - V y)) ≤ uu * B + ee :=
  (sub_spec hx hy (lt_1000 (small_900 (Rat.le_trans hv hB)))).err hv
theorem small_999 {v : Rat} (h : v ≤ 1073741824) : v < p2 999 := by
  have h1 := p2_mono (show (31 : Int) ≤ 999 by decide)
  have h2 : p2 31 = 2147483648 := by
    rw [show (31 : Int) = ((31 : Nat) : Int) from rfl, p2_nat]; rfl
  grind
theorem div_err {x y : Nat} {Q B : Rat} (hx : F x) (hy : F y) (hy0 : V y ≠ 0) (hq : Q * V y = V x) (hv : ab Q ≤ B) (hB : B ≤ 1073741824) : ∃ r, double.div x y = some r ∧ F r ∧ ab (V r - Q) ≤ 2 * uu * B + ee := by
  have e : V x / V y = Q := by
    rw [← hq]; exact Rat.mul_div_cancel hy0
  obtain ⟨r, h1, h2, h3, _⟩ := div_spec hx hy hy0 (by rw [e]; exact small_999 (Rat.le_trans hv hB))
  rw [e, two_uu] at h3
  refine ⟨r, h1, h2, Rat.le_trans h3 ?_⟩
  have := Rat.mul_le_mul_of_nonneg_left hv (show 0 ≤ 2 * uu from Rat.mul_nonneg (by decide) (Rat.le_of_lt uu_pos))
  unfold ee
  grind

theorem opF_ss (op : Nat → Nat → Option Nat) (x y : Nat) : opF op (some x) (some y) = op x y := rfl

/-! ### Chebyshev's step -/
theorem ct_a : (2 : Rat) + (uu * 2 + ee) ≤ 3 := by
  have h1 := uu_eq; have h2 := ee_le; have h3 := uu_pos; have h4 := ee_pos
  generalize uu = u at *; generalize ee = e at *
  grind
theorem ct_b : (6 : Rat) + (uu * 6 + ee) ≤ 7 := by
  have h1 := uu_eq; have h2 := ee_le; have h3 := uu_pos; have h4 := ee_pos
  generalize uu = u at *; generalize ee = e at *
  grind
theorem ct_c : uu * 9 + ee + (uu * 6 + ee + (uu * 2 + ee) * 2) ≤ 32 * uu := by
  have h2 := ee_le; have h3 := uu_pos; have h4 := ee_pos
  generalize uu = u at *; generalize ee = e at *
  grind
theorem ct_alg {t x1 x0 r1 r2 r3 a b c : Rat} (h1 : ab (r1 - 2 * t) ≤ a) (h2 : ab (r2 - r1 * x1) ≤ b) (h3 : ab (r3 - (r2 - x0)) ≤ c) (hx : ab x1 ≤ 2) :
    ab (r3 - (2 * t * x1 - x0)) ≤ c + (b + a * 2) := by
  have e : r3 - (2 * t * x1 - x0) = r3 - (r2 - x0) + (r2 - r1 * x1 + (r1 - 2 * t) * x1) := by grind
  rw [e]
  exact ab_add_le h3 (ab_add_le h2 (ab_mul_le h1 hx))

theorem tc_step {t x1 x0 : Nat} (ft : F t) (f1 : F x1) (f0 : F x0) (ht : ab (V t) ≤ 1) (h1 : ab (V x1) ≤ 2) (h0 : ab (V x0) ≤ 2) :
    ∃ r1 r2 r, double.mul two t = some r1 ∧ double.mul r1 x1 = some r2 ∧ double.sub r2 x0 = some r ∧ F r ∧ ab (V r - (2 * V t * V x1 - V x0)) ≤ 32 * uu := by
  have b1 : ab (V two * V t) ≤ 2 := by
    have := ab_mul_le (x := V two) (a := 2) (by rw [val_two.2, ab_of_nonneg (by decide)]; exact Rat.le_refl) ht
    rwa [Rat.mul_one] at this
  obtain ⟨r1, g1, fr1, w1⟩ := mul_err val_two.1 ft b1 (by decide)
  have c1 : ab (V r1) ≤ 3 := Rat.le_trans (ab_near w1 b1) ct_a
  have b2 : ab (V r1 * V x1) ≤ 6 := Rat.le_trans (ab_mul_le c1 h1) (by grind)
  obtain ⟨r2, g2, fr2, w2⟩ := mul_err fr1 f1 b2 (by decide)
  have c2 : ab (V r2) ≤ 7 := Rat.le_trans (ab_near w2 b2) ct_b
  have b3 : ab (V r2 - V x0) ≤ 9 := Rat.le_trans (ab_sub_le c2 h0) (by grind)
  obtain ⟨r3, g3, fr3, w3⟩ := sub_err fr2 f0 b3 (by decide)
  rw [val_two.2] at w1
  exact ⟨r1, r2, r3, g1, g2, g3, fr3, Rat.le_trans (ct_alg w1 w2 w3 h1) ct_c⟩

/-! ### Legendre's step -/
theorem un_in {N : Rat} (h0 : 0 ≤ N) (h1 : N ≤ 16384) : 0 ≤ uu * N ∧ uu * N ≤ uu * 16384 :=
  ⟨Rat.mul_nonneg (Rat.le_of_lt uu_pos) h0, Rat.mul_le_mul_of_nonneg_left h1 (Rat.le_of_lt uu_pos)⟩
theorem lg_a {N : Rat} (h0 : 0 ≤ N) (hn : N ≤ 16384) : (2 * N + 1) + (uu * (2 * N + 1) + ee) ≤ 2 * N + 2 := by
  have h1 := uu_eq; have h2 := ee_le; have h3 := uu_pos; have h4 := ee_pos; have h5 := un_in h0 hn
  generalize uu = u at *; generalize ee = e at *
  grind
theorem lg_b {N : Rat} (h0 : 0 ≤ N) (hn : N ≤ 16384) : (4 * N + 4) + (uu * (4 * N + 4) + ee) ≤ 4 * N + 5 := by
  have h1 := uu_eq; have h2 := ee_le; have h3 := uu_pos; have h4 := ee_pos; have h5 := un_in h0 hn
  generalize uu = u at *; generalize ee = e at *
  grind
theorem lg_c {N : Rat} (h0 : 0 ≤ N) (hn : N ≤ 16384) : 2 * N + (uu * (2 * N) + ee) ≤ 2 * N + 1 := by
  have h1 := uu_eq; have h2 := ee_le; have h3 := uu_pos; have h4 := ee_pos; have h5 := un_in h0 hn
  generalize uu = u at *; generalize ee = e at *
  grind
theorem lg_d {N : Rat} (h0 : 0 ≤ N) (hn : N ≤ 16384) : (6 * N + 6) + (uu * (6 * N + 6) + ee) ≤ 7 * (N + 1) := by
  have h1 := uu_eq; have h2 := ee_le; have h3 := uu_pos; have h4 := ee_pos; have h5 := un_in h0 hn
  generalize uu = u at *; generalize ee = e at *
  grind
/-- The sum of the errors of one step, times N + 1. -/
theorem lg_e {N : Rat} (h0 : 0 ≤ N) (hn : N ≤ 16384) : (2 * uu * 7 + ee) * (N + 1) + (uu * (6 * N + 6) + ee + ((uu * (4 * N + 4) + ee + (uu * (2 * N + 1) + ee) * 2) + (uu * (2 * N) + ee))) ≤ 32 * uu * (N + 1) := by
  have h2 := ee_le; have h3 := uu_pos; have h4 := ee_pos; have h5 := un_in h0 hn
  have h6 : 0 ≤ ee * N := Rat.mul_nonneg (Rat.le_of_lt h4) h0
  have h7 : ee * N * 1048576 ≤ uu * N := by
    have := Rat.mul_le_mul_of_nonneg_right h2 h0
    grind
  generalize uu = u at *; generalize ee = e at *
  grind
theorem ab_scale {Q N v : Rat} (hN : 0 ≤ N) (hQ : Q * (N + 1) = v) : ab v = ab Q * (N + 1) := by
  rw [← hQ, ab_mul, ab_of_nonneg (x := N + 1) (by grind)]
theorem of_scale {a b N : Rat} (hN : 0 ≤ N) (h : a * (N + 1) ≤ b * (N + 1)) : a ≤ b :=
  Rat.le_of_mul_le_mul_right h (by grind)
theorem lg_alg {N t x1 x0 r1 r2 r3 r4 r5 Q a b c d f : Rat} (hN : 0 ≤ N) (h1 : ab (r1 - (2 * N + 1) * t) ≤ a) (h2 : ab (r2 - r1 * x1) ≤ b) (h3 : ab (r3 - N * x0) ≤ c)
    (h4 : ab (r4 - (r2 - r3)) ≤ d) (hQ : Q * (N + 1) = r4) (h5 : ab (r5 - Q) ≤ f) (hx : ab x1 ≤ 2) :
    ab (r5 * (N + 1) - ((2 * N + 1) * t * x1 - N * x0)) ≤ f * (N + 1) + (d + ((b + a * 2) + c)) := by
  have e : r5 * (N + 1) - ((2 * N + 1) * t * x1 - N * x0) = (r5 - Q) * (N + 1) + (r4 - (r2 - r3) + ((r2 - r1 * x1 + (r1 - (2 * N + 1) * t) * x1) - (r3 - N * x0))) := by
    rw [← hQ]; grind
  rw [e]
  refine ab_add_le (ab_mul_le h5 ?_) (ab_add_le h4 (ab_sub_le (ab_add_le h2 (ab_mul_le h1 hx)) h3))
  rw [ab_of_nonneg (by grind)]; exact Rat.le_refl

theorem le_2N {N : Rat} (h : N ≤ 16384) (c : Rat) (hc : c ≤ 8) : 6 * N + c ≤ 1073741824 := by grind
theorem lt_of_6 {N a c : Rat} (_h0 : 0 ≤ N) (hn : N ≤ 16384) (ha : a ≤ 6 * N + c) (hc : c ≤ 8) : a ≤ 1073741824 := by grind
theorem ab_2N {N : Rat} (h : 0 ≤ N) : ab (2 * N + 1) ≤ 2 * N + 1 := by rw [ab_of_nonneg (by grind)]; exact Rat.le_refl
theorem ab_N {N : Rat} (h : 0 ≤ N) : ab N ≤ N := by rw [ab_of_nonneg h]; exact Rat.le_refl

theorem leg_step {t x1 x0 n : Nat} (hn : n ≤ 4096) (ft : F t) (f1 : F x1) (f0 : F x0) (ht : ab (V t) ≤ 1) (h1 : ab (V x1) ≤ 2) (h0 : ab (V x0) ≤ 2) :
    ∃ r, stepL (some t) n (some x1) (some x0) = some r ∧ F r ∧ ab (V r * ((n : Rat) + 1) - ((2 * (n : Rat) + 1) * V t * V x1 - (n : Rat) * V x0)) ≤ 32 * uu * ((n : Rat) + 1) := by
  obtain ⟨a, ea, fa, va⟩ := twoN1_spec n (by omega)
  obtain ⟨b, eb, fb, vb⟩ := nP1_spec n (by omega)
  obtain ⟨fn, vn⟩ := flN_spec n (by omega)
  have hk0 : (0 : Rat) ≤ (n : Rat) := Rat.natCast_nonneg
  have hk1 : (n : Rat) ≤ 16384 := by exact_mod_cast (show n ≤ 16384 by omega)
  generalize (n : Rat) = N at *
  have b1 : ab (V a * V t) ≤ 2 * N + 1 := by
    have := ab_mul_le (x := V a) (a := 2 * N + 1) (by rw [va]; exact ab_2N hk0) ht
    rwa [Rat.mul_one] at this
  obtain ⟨r1, g1, fr1, w1⟩ := mul_err fa ft b1 (lt_of_6 hk0 hk1 (c := 1) (by grind) (by decide))
  have c1 : ab (V r1) ≤ 2 * N + 2 := Rat.le_trans (ab_near w1 b1) (lg_a hk0 hk1)
  have b2 : ab (V r1 * V x1) ≤ 4 * N + 4 := Rat.le_trans (ab_mul_le c1 h1) (by grind)
  obtain ⟨r2, g2, fr2, w2⟩ := mul_err fr1 f1 b2 (lt_of_6 hk0 hk1 (c := 4) (by grind) (by decide))
  have c2 : ab (V r2) ≤ 4 * N + 5 := Rat.le_trans (ab_near w2 b2) (lg_b hk0 hk1)
  have b3 : ab (V (flN n) * V x0) ≤ 2 * N := by
    have := ab_mul_le (x := V (flN n)) (a := N) (by rw [vn]; exact ab_N hk0) h0
    rwa [Rat.mul_comm N 2] at this
  obtain ⟨r3, g3, fr3, w3⟩ := mul_err fn f0 b3 (lt_of_6 hk0 hk1 (c := 4) (by grind) (by decide))
  have c3 : ab (V r3) ≤ 2 * N + 1 := Rat.le_trans (ab_near w3 b3) (lg_c hk0 hk1)
  have b4 : ab (V r2 - V r3) ≤ 6 * N + 6 := Rat.le_trans (ab_sub_le c2 c3) (by grind)
  obtain ⟨r4, g4, fr4, w4⟩ := sub_err fr2 fr3 b4 (lt_of_6 hk0 hk1 (c := 6) (by grind) (by decide))
  have c4 : ab (V r4) ≤ 7 * (N + 1) := Rat.le_trans (ab_near w4 b4) (lg_d hk0 hk1)
  have hb0 : V b ≠ 0 := by rw [vb]; exact ne0 hk0
  obtain ⟨Q, hQ⟩ : ∃ Q, V r4 / V b = Q := ⟨_, rfl⟩
  have hQb : Q * V b = V r4 := by rw [← hQ]; exact Rat.div_mul_cancel hb0
  have hQN : Q * (N + 1) = V r4 := by rw [← vb]; exact hQb
  have c5 : ab Q ≤ 7 := of_scale hk0 (by rw [← ab_scale hk0 hQN]; exact c4)
  obtain ⟨r5, g5, fr5, w5⟩ := div_err fr4 fb hb0 hQb c5 (by decide)
  rw [va] at w1
  rw [vn] at w3
  exact ⟨r5, step_of ea eb g1 g2 g3 g4 g5, fr5, Rat.le_trans (lg_alg hk0 w1 w2 w3 w4 hQN w5 h1) (lg_e hk0 hk1)⟩
end Go.Proofs.Qxb6621625a
