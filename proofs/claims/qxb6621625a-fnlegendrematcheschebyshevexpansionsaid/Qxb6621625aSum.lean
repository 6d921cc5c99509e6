/- THE ERROR OF THE SUM, and the law's last comparison. No Go in sight. -/
import Derived.Test.Qxb6621625aSeq
namespace Go.Proofs.Qxb6621625a
open Ieee

theorem sq_ge {K : Rat} (h : 1 ≤ K) : K ≤ K * K := by
  have := Rat.mul_le_mul_of_nonneg_right h (show 0 ≤ K by grind)
  rwa [Rat.one_mul] at this
theorem pr_a {K : Rat} (h1 : 1 ≤ K) : uu * 4 + ee + 9 * uu * K * 3 ≤ 32 * uu * K := by
  have h2 := ee_le; have h3 := uu_pos; have h4 := ee_pos
  have h5 := Rat.mul_le_mul_of_nonneg_left h1 (Rat.le_of_lt h3)
  generalize uu = u at *; generalize ee = e at *
  grind
theorem pr_b : (4 : Rat) + (uu * 4 + ee) ≤ 5 := by
  have h1 := uu_eq; have h2 := ee_le; have h3 := uu_pos; have h4 := ee_pos
  generalize uu = u at *; generalize ee = e at *
  grind
theorem pr_c : (10 : Rat) + (uu * 10 + ee) ≤ 11 := by
  have h1 := uu_eq; have h2 := ee_le; have h3 := uu_pos; have h4 := ee_pos
  generalize uu = u at *; generalize ee = e at *
  grind
theorem pr_d {K : Rat} (h1 : 1 ≤ K) : uu * 10 + ee + (32 * uu * K * 2 + 32 * uu * (K * K)) ≤ 107 * uu * (K * K) := by
  have h2 := ee_le; have h3 := uu_pos; have h4 := ee_pos
  have h5 := sq_ge h1
  have h6 := Rat.mul_le_mul_of_nonneg_left h5 (Rat.le_of_lt h3)
  have h7 := Rat.mul_le_mul_of_nonneg_left (Rat.le_trans h1 h5) (Rat.le_of_lt h3)
  generalize uu = u at *; generalize ee = e at *
  generalize K * K = W at *
  grind
theorem pr_alg1 {x y a b r1 e f : Rat} (hx : ab (x - a) ≤ e) (hy : ab (y - b) ≤ e) (ha : ab a ≤ 1) (hy2 : ab y ≤ 2) (h1 : ab (r1 - x * y) ≤ f) : ab (r1 - a * b) ≤ f + e * 3 := by
  have e1 : r1 - a * b = r1 - x * y + ((x - a) * y + a * (y - b)) := by grind
  rw [e1]
  refine Rat.le_trans (ab_add_le h1 (ab_add_le (ab_mul_le hx hy2) (ab_mul_le ha hy))) ?_
  grind
theorem pr_alg2 {r1 z T ab' r2 e f g : Rat} (h1 : ab (r1 - ab') ≤ e) (hz : ab (z - T) ≤ f) (hz2 : ab z ≤ 2) (hab : ab ab' ≤ 1) (h2 : ab (r2 - r1 * z) ≤ g) : ab (r2 - ab' * T) ≤ g + (e * 2 + f) := by
  have e1 : r2 - ab' * T = r2 - r1 * z + ((r1 - ab') * z + ab' * (z - T)) := by grind
  rw [e1]
  refine Rat.le_trans (ab_add_le h2 (ab_add_le (ab_mul_le h1 hz2) (ab_mul_le hab hz))) ?_
  grind

/-- One term. -/
theorem term_ok {x y z : Nat} {a b T K : Rat} (h1 : 1 ≤ K) (fx : F x) (fy : F y) (fz : F z)
    (hx : ab (V x - a) ≤ 9 * uu * K) (hy : ab (V y - b) ≤ 9 * uu * K) (hz : ab (V z - T) ≤ 32 * uu * (K * K)) (ha : ab a ≤ 1) (hb : ab b ≤ 1)
    (hx2 : ab (V x) ≤ 2) (hy2 : ab (V y) ≤ 2) (hz2 : ab (V z) ≤ 2) :
    ∃ r1 r2, double.mul x y = some r1 ∧ double.mul r1 z = some r2 ∧ F r2 ∧ ab (V r2) ≤ 11 ∧ ab (V r2 - a * b * T) ≤ 107 * uu * (K * K) := by
  have b1 : ab (V x * V y) ≤ 4 := Rat.le_trans (ab_mul_le hx2 hy2) (by grind)
  obtain ⟨r1, g1, fr1, w1⟩ := mul_err fx fy b1 (by decide)
  have c1 : ab (V r1) ≤ 5 := Rat.le_trans (ab_near w1 b1) pr_b
  have b2 : ab (V r1 * V z) ≤ 10 := Rat.le_trans (ab_mul_le c1 hz2) (by grind)
  obtain ⟨r2, g2, fr2, w2⟩ := mul_err fr1 fz b2 (by decide)
  have d1 := Rat.le_trans (pr_alg1 hx hy ha hy2 w1) (pr_a h1)
  have hab : ab (a * b) ≤ 1 := Rat.le_trans (ab_mul_le ha hb) (by grind)
  exact ⟨r1, r2, g1, g2, fr2, Rat.le_trans (ab_near w2 b2) pr_c, Rat.le_trans (pr_alg2 d1 hz hz2 hab w2) (pr_d h1)⟩

theorem ad_a {J : Rat} (h0 : 0 ≤ J) (hJ : J ≤ 4097) : 12 * J + 11 + (uu * (12 * J + 11) + ee) ≤ 12 * (J + 1) := by
  have h1 := uu_eq; have h2 := ee_le; have h3 := uu_pos; have h4 := ee_pos
  have h5 := un_in h0 (show J ≤ 16384 by grind)
  generalize uu = u at *; generalize ee = e at *
  grind
theorem ad_b {J K : Rat} (h0 : 0 ≤ J) (hJ : J + 1 ≤ K) : uu * (12 * J + 11) + ee ≤ 13 * uu * (K * K) := by
  have h2 := ee_le; have h3 := uu_pos; have h4 := ee_pos
  have h5 := sq_ge (show 1 ≤ K by grind)
  have h6 := Rat.mul_le_mul_of_nonneg_left h5 (Rat.le_of_lt h3)
  have h7 := Rat.mul_le_mul_of_nonneg_left hJ (Rat.le_of_lt h3)
  have h8 := Rat.mul_nonneg (Rat.le_of_lt h3) h0
  generalize uu = u at *; generalize ee = e at *
  generalize K * K = W at *
  grind
theorem ad_alg {s r2 r S T e f g : Rat} (h : ab (r - (s + r2)) ≤ e) (hs : ab (s - S) ≤ f) (ht : ab (r2 - T) ≤ g) : ab (r - (S + T)) ≤ e + (f + g) := by
  have e1 : r - (S + T) = r - (s + r2) + ((s - S) + (r2 - T)) := by grind
  rw [e1]; exact ab_add_le h (ab_add_le hs ht)
theorem ad_sum {J W u : Rat} : 13 * u * W + (120 * u * W * J + 107 * u * W) = 120 * u * W * (J + 1) := by grind
theorem zero_val : F 0 ∧ V 0 = 0 := by
  have e : rd 0 = .number false 0 (-1074) := by decide
  refine ⟨by unfold F; rw [e]; rfl, ?_⟩
  unfold V
  rw [e, dv_neg]
  simp only [Bool.false_eq_true, if_false, show ((0 : Nat) : Rat) = 0 from rfl, Rat.zero_mul]

/-- One addition. -/
theorem sum_ok {s r2 : Nat} {J K S T : Rat} (h0 : 0 ≤ J) (hJ : J + 1 ≤ K) (hK : K ≤ 4097) (fs : F s) (fr : F r2) (hs : ab (V s) ≤ 12 * J) (hr : ab (V r2) ≤ 11)
    (es : ab (V s - S) ≤ 120 * uu * (K * K) * J) (er : ab (V r2 - T) ≤ 107 * uu * (K * K)) :
    ∃ r, double.add s r2 = some r ∧ F r ∧ ab (V r) ≤ 12 * (J + 1) ∧ ab (V r - (S + T)) ≤ 120 * uu * (K * K) * (J + 1) := by
  have b1 : ab (V s + V r2) ≤ 12 * J + 11 := ab_add_le hs hr
  obtain ⟨r, g, f, w⟩ := add_err fs fr b1 (by grind)
  refine ⟨r, g, f, Rat.le_trans (ab_near w b1) (ad_a h0 (by grind)), ?_⟩
  rw [← ad_sum]
  exact ad_alg (Rat.le_trans w (ad_b h0 hJ)) es er

theorem dd_le {k j : Nat} (h : j ≤ k) : dd k j ≤ k := by unfold dd; omega
theorem dd_cq (t : Rat) {k j : Nat} (h : j ≤ k) : cq t ((j : Int) - ((k - j : Nat) : Int)) = tq t (dd k j) := by
  unfold cq dd
  rw [show ((j : Int) - ((k - j : Nat) : Int)).natAbs = ((k : Int) - 2 * j).natAbs by omega]
theorem up_K {d k c : Rat} (hd : d ≤ k) (hc : 0 ≤ c) : c * d ≤ c * (k + 1) := Rat.mul_le_mul_of_nonneg_left (by grind) hc
theorem up_KK {d k c : Rat} (h0 : 0 ≤ d) (hd : d ≤ k) (hc : 0 ≤ c) : c * (d * d) ≤ c * ((k + 1) * (k + 1)) :=
  Rat.mul_le_mul_of_nonneg_left (mul_mono h0 (by grind) h0 (by grind)) hc
theorem c_nonneg (c : Rat) (h : 0 ≤ c) : 0 ≤ c * uu := Rat.mul_nonneg h (Rat.le_of_lt uu_pos)

/-- The words that one term of the sum reads, and what they give. -/
theorem term_k {t : Nat} (ft : F t) (ht : ab (V t) ≤ 1) {k j : Nat} (hk : k ≤ 4095) (hj : j ≤ k) :
    ∃ x y z r1 r2, acF j = some x ∧ acF (k - j) = some y ∧ tcF t (dd k j) = some z ∧ double.mul x y = some r1 ∧ double.mul r1 z = some r2 ∧ F r2 ∧ ab (V r2) ≤ 11 ∧
      ab (V r2 - gq (V t) j (k - j)) ≤ 107 * uu * (((k : Rat) + 1) * ((k : Rat) + 1)) := by
  have hd := dd_le hj
  obtain ⟨x, ex, fx, wx⟩ := ac_ok j (by omega)
  obtain ⟨y, ey, fy, wy⟩ := ac_ok (k - j) (by omega)
  obtain ⟨z, ez, fz, wz⟩ := tc_ok ft ht (dd k j) (by omega)
  have hk0 : (0 : Rat) ≤ (k : Rat) := Rat.natCast_nonneg
  have hk1 : (k : Rat) ≤ 4095 := by exact_mod_cast hk
  have j1 : (j : Rat) ≤ (k : Rat) := by exact_mod_cast hj
  have j2 : ((k - j : Nat) : Rat) ≤ (k : Rat) := by exact_mod_cast (show k - j ≤ k by omega)
  have j3 : ((dd k j : Nat) : Rat) ≤ (k : Rat) := by exact_mod_cast hd
  have j4 : (0 : Rat) ≤ ((dd k j : Nat) : Rat) := Rat.natCast_nonneg
  have x2 : ab (V x) ≤ 2 := ac_two (by grind) wx (ab_aq j)
  have y2 : ab (V y) ≤ 2 := ac_two (by grind) wy (ab_aq (k - j))
  have z2 : ab (V z) ≤ 2 := err_one j4 (by grind) wz (tq_unit ht (dd k j)).2.1
  obtain ⟨r1, r2, g1, g2, f2, c2, w2⟩ := term_ok (K := (k : Rat) + 1) (by grind) fx fy fz (Rat.le_trans wx (up_K j1 (c_nonneg 9 (by decide)))) (Rat.le_trans wy (up_K j2 (c_nonneg 9 (by decide))))
    (Rat.le_trans wz (up_KK j4 j3 (c_nonneg 32 (by decide)))) (ab_aq j) (ab_aq (k - j)) x2 y2 z2
  refine ⟨x, y, z, r1, r2, ex, ey, ez, g1, g2, f2, c2, ?_⟩
  unfold gq
  rw [dd_cq _ hj]
  exact w2

theorem md_ok {t : Nat} (ft : F t) (ht : ab (V t) ≤ 1) {k : Nat} (hk : k ≤ 4095) : ∀ j : Nat, j ≤ k + 1 →
    ∃ s, mdF t k j = some s ∧ F s ∧ ab (V s) ≤ 12 * (j : Rat) ∧ ab (V s - sm (fun i => gq (V t) i (k - i)) j) ≤ 120 * uu * (((k : Rat) + 1) * ((k : Rat) + 1)) * (j : Rat)
  | 0, _ => by
    refine ⟨0, rfl, zero_val.1, ?_, ?_⟩
    · rw [zero_val.2, show ((0 : Nat) : Rat) = 0 from rfl, Rat.mul_zero, ab_of_nonneg Rat.le_refl]; exact Rat.le_refl
    · rw [zero_val.2, show ((0 : Nat) : Rat) = 0 from rfl, Rat.mul_zero, show sm (fun i => gq (V t) i (k - i)) 0 = 0 from rfl, zero_sub_self, ab_of_nonneg Rat.le_refl]; exact Rat.le_refl
  | j + 1, hj => by
    obtain ⟨s, es, fs, cs, ws⟩ := md_ok ft ht hk j (by omega)
    obtain ⟨x, y, z, r1, r2, ex, ey, ez, g1, g2, f2, c2, w2⟩ := term_k ft ht hk (j := j) (by omega)
    have hk1 : (k : Rat) ≤ 4095 := by exact_mod_cast hk
    have hj1 : (j : Rat) ≤ (k : Rat) := by exact_mod_cast (show j ≤ k by omega)
    have hj0 : (0 : Rat) ≤ (j : Rat) := Rat.natCast_nonneg
    obtain ⟨r, g3, f3, c3, w3⟩ := sum_ok (K := (k : Rat) + 1) hj0 (by grind) (by grind) fs f2 cs c2 ws w2
    refine ⟨r, ?_, f3, ?_, ?_⟩
    · show opF double.add (mdF t k j) (opF double.mul (opF double.mul (acF j) (acF (k - j))) (tcF t (dd k j))) = _
      rw [es, ex, ey, ez, opF_ss, g1, opF_ss, g2, opF_ss, g3]
    · rw [cast_succ]; exact c3
    · rw [cast_succ]; exact w3

/-! ### The last comparison -/
/-- 2^-44. -/
def lim : Nat := 4409024035195715584
theorem lim_val : F lim ∧ V lim = p2 (-44) := by
  have e : rd lim = .number false 4503599627370496 (-96) := by decide
  refine ⟨by unfold F; rw [e]; rfl, ?_⟩
  unfold V
  rw [e, dv_neg]
  simp only [Bool.false_eq_true, if_false]
  have h : ((4503599627370496 : Nat) : Rat) = p2 52 := by rw [show (52 : Int) = ((52 : Nat) : Int) from rfl, p2_nat]
  rw [h, ← p2_add]; rfl
theorem lim_uu : p2 (-44) = 512 * uu := by
  have h : p2 9 = 512 := by rw [show (9 : Int) = ((9 : Nat) : Int) from rfl, p2_nat]; rfl
  rw [← h]; unfold uu; rw [← p2_add]; rfl

theorem cube_le {a : Nat} (h : a ≤ 4096) : a * a ≤ 16777216 ∧ a * a * a ≤ 68719476736 :=
  ⟨Nat.mul_le_mul h h, Nat.mul_le_mul (Nat.mul_le_mul h h) h⟩
theorem nat_lt {n : Nat} (h : n ≤ 68719476736) : (n : Rat) < p2 1000 := by
  have h1 : (n : Rat) ≤ 68719476736 := by exact_mod_cast h
  have h2 := p2_mono (show (40 : Int) ≤ 900 by decide)
  have h3 : p2 40 = 1099511627776 := by rw [show (40 : Int) = ((40 : Nat) : Int) from rfl, p2_nat]; rfl
  exact lt_1000 (by grind)

/-- kk*kk*kk*2^-44 is exact. -/
theorem kk_ok (k : Nat) (hk : k ≤ 4095) : ∃ a b c, double.mul (flN (k + 1)) (flN (k + 1)) = some a ∧ double.mul a (flN (k + 1)) = some b ∧ double.mul b lim = some c ∧ F c ∧
    V c = 512 * uu * (((k : Rat) + 1) * ((k : Rat) + 1) * ((k : Rat) + 1)) := by
  obtain ⟨f1, v1⟩ := flN_spec (k + 1) (by omega)
  have hc := cube_le (show k + 1 ≤ 4096 by omega)
  have e1 : V (flN (k + 1)) * V (flN (k + 1)) = (((k + 1) * (k + 1) : Nat) : Rat) := by rw [v1, Rat.natCast_mul]
  have a1 : ab (V (flN (k + 1)) * V (flN (k + 1))) = (((k + 1) * (k + 1) : Nat) : Rat) := by rw [e1]; exact ab_of_nonneg Rat.natCast_nonneg
  obtain ⟨a, g1, fa, va⟩ := (mul_spec f1 f1 (by rw [a1]; exact nat_lt (by omega))).whole _ (by omega) a1
  rw [e1] at va
  have e2 : V a * V (flN (k + 1)) = (((k + 1) * (k + 1) * (k + 1) : Nat) : Rat) := by rw [va, v1, Rat.natCast_mul ((k + 1) * (k + 1))]
  have a2 : ab (V a * V (flN (k + 1))) = (((k + 1) * (k + 1) * (k + 1) : Nat) : Rat) := by rw [e2]; exact ab_of_nonneg Rat.natCast_nonneg
  obtain ⟨b, g2, fb, vb⟩ := (mul_spec fa f1 (by rw [a2]; exact nat_lt (by omega))).whole _ (by omega) a2
  rw [e2] at vb
  have e3 : V b * V lim = (((k + 1) * (k + 1) * (k + 1) : Nat) : Rat) * p2 (-44) := by rw [vb, lim_val.2]
  have a3 : ab (V b * V lim) = (((k + 1) * (k + 1) * (k + 1) : Nat) : Rat) * p2 (-44) := by
    rw [e3]; exact ab_of_nonneg (Rat.mul_nonneg Rat.natCast_nonneg (Rat.le_of_lt (p2_pos _)))
  have l3 : ab (V b * V lim) < p2 1000 := by
    rw [a3]
    have h1 : p2 (-44) ≤ 1 := by rw [← p2_zero]; exact p2_mono (by decide)
    have h2 := Rat.mul_le_mul_of_nonneg_left h1 (show (0 : Rat) ≤ (((k + 1) * (k + 1) * (k + 1) : Nat) : Rat) from Rat.natCast_nonneg)
    rw [Rat.mul_one] at h2
    exact le_lt h2 (nat_lt hc.2)
  obtain ⟨c, g3, fc, _, x3⟩ := mul_spec fb lim_val.1 l3
  refine ⟨a, b, c, g1, g2, g3, fc, ?_⟩
  rw [x3 ((k + 1) * (k + 1) * (k + 1)) (-44) (by omega) (by decide) a3, e3, lim_uu, Rat.natCast_mul, Rat.natCast_mul, cast_succ, Rat.mul_comm]

theorem fin_a {k u : Rat} (h0 : 0 ≤ k) (hu : 0 ≤ u) : 32 * u * (k * k) + 120 * u * ((k + 1) * (k + 1)) * (k + 1) ≤ 152 * u * ((k + 1) * (k + 1) * (k + 1)) := by
  have h1 := Rat.mul_nonneg hu h0
  have h2 := Rat.mul_nonneg h1 h0
  have h3 := Rat.mul_nonneg h2 h0
  grind
theorem fin_b {W : Rat} (h1 : 1 ≤ W) : 152 * uu * W + (uu * (152 * uu * W) + ee) ≤ 512 * uu * W := by
  have e1 := uu_eq; have h2 := ee_le; have h3 := uu_pos; have h4 := ee_pos
  have h5 := Rat.mul_le_mul_of_nonneg_left h1 (Rat.le_of_lt h3)
  have h6 : uu * (uu * W) ≤ 1 * (uu * W) := Rat.mul_le_mul_of_nonneg_right (by grind) (Rat.mul_nonneg (Rat.le_of_lt h3) (by grind))
  generalize uu = u at *; generalize ee = e at *
  grind
theorem cube_ge {K : Rat} (h : 1 ≤ K) : 1 ≤ K * K * K := by
  have h1 := mul_mono (show (0 : Rat) ≤ 1 by decide) h (show (0 : Rat) ≤ 1 by decide) h
  have h2 := mul_mono (show (0 : Rat) ≤ 1 * 1 by grind) h1 (show (0 : Rat) ≤ 1 by decide) h
  grind
theorem fin_c {k : Rat} (h0 : 0 ≤ k) (h1 : k ≤ 4095) : 152 * uu * ((k + 1) * (k + 1) * (k + 1)) ≤ 1073741824 := by
  have h2 := mul_mono (show 0 ≤ k + 1 by grind) (show k + 1 ≤ 4096 by grind) (show 0 ≤ k + 1 by grind) (show k + 1 ≤ 4096 by grind)
  have h3 := mul_mono (Rat.mul_nonneg (show 0 ≤ k + 1 by grind) (show 0 ≤ k + 1 by grind)) h2 (show 0 ≤ k + 1 by grind) (show k + 1 ≤ 4096 by grind)
  have h4 := Rat.mul_le_mul_of_nonneg_left h3 (c_nonneg 152 (by decide))
  have h5 := uu_eq; have h6 := uu_pos
  generalize uu = u at *
  generalize (k + 1) * (k + 1) * (k + 1) = W at *
  grind

/-- The law's bound. -/
theorem last_ok {t : Nat} (ft : F t) (ht : ab (V t) ≤ 1) {k x s : Nat} (hk : k ≤ 4095) (hx : leg (some t) k = some x) (hs : mdF t k (k + 1) = some s) :
    ∃ d, double.sub x s = some d ∧ F d ∧ ab (V d) ≤ 512 * uu * (((k : Rat) + 1) * ((k : Rat) + 1) * ((k : Rat) + 1)) := by
  obtain ⟨x', e1, fx, wx⟩ := leg_ok ft ht k hk
  obtain ⟨s', e2, fs, _, ws⟩ := md_ok ft ht hk (k + 1) (Nat.le_refl _)
  cases Option.some.inj (e1.symm.trans hx)
  cases Option.some.inj (e2.symm.trans hs)
  have hk0 : (0 : Rat) ≤ (k : Rat) := Rat.natCast_nonneg
  have hk1 : (k : Rat) ≤ 4095 := by exact_mod_cast hk
  rw [sm_dg, ← (pq_eq (V t) k).1, cast_succ] at ws
  have hd : ab (V x - V s) ≤ 152 * uu * (((k : Rat) + 1) * ((k : Rat) + 1) * ((k : Rat) + 1)) := by
    have e : V x - V s = (V x - pq (V t) k) - (V s - pq (V t) k) := by
      generalize V x = a; generalize V s = b; generalize pq (V t) k = c
      grind
    rw [e]
    exact Rat.le_trans (ab_sub_le wx ws) (fin_a hk0 (Rat.le_of_lt uu_pos))
  obtain ⟨d, g, fd, wd⟩ := sub_err fx fs hd (fin_c hk0 hk1)
  exact ⟨d, g, fd, Rat.le_trans (ab_near wd hd) (fin_b (cube_ge (by grind)))⟩
end Go.Proofs.Qxb6621625a
