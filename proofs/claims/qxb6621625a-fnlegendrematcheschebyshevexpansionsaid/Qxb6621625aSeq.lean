/- THE ERRORS OF THE WHOLE SEQUENCES: each word is near the exact value; the law's bound holds. No Go in sight. -/
import Derived.Test.Qxb6621625aErr
namespace Go.Proofs.Qxb6621625a
open Ieee

/-- The words of T. -/
def tcF (t : Nat) : Nat → Option Nat
  | 0 => some one
  | 1 => some t
  | m + 2 => opF double.sub (opF double.mul (opF double.mul (some two) (some t)) (tcF t (m + 1))) (tcF t m)
/-- The words of a. -/
def acF : Nat → Option Nat
  | 0 => some one
  | m + 1 => opF double.div (opF double.mul (acF m) (some (flN (2 * m + 1)))) (some (flN (2 * m + 2)))
/-- |k - 2 j| -/
def dd (k j : Nat) : Nat := ((k : Int) - 2 * j).natAbs
/-- The words of the sum. -/
def mdF (t k : Nat) : Nat → Option Nat
  | 0 => some 0
  | j + 1 => opF double.add (mdF t k j) (opF double.mul (opF double.mul (acF j) (acF (k - j))) (tcF t (dd k j)))

/-! ### Both recurrences -/
def Good (T : Rat) (q : Nat → Rat) (k : Nat) (o0 o1 : Option Nat) : Prop :=
  ∃ x0 x1, o0 = some x0 ∧ o1 = some x1 ∧ F x0 ∧ F x1 ∧ fm T (V x0 - q k) (V x1 - q (k + 1)) ≤ (32 * uu * (k : Rat)) * (32 * uu * (k : Rat)) ∧
    ab (V x0 - q k) ≤ 32 * uu * ((k : Rat) * (k : Rat)) ∧ ab (V x1 - q (k + 1)) ≤ 32 * uu * ((k : Rat) * (k : Rat))

theorem sq_k {k : Rat} (h0 : 0 ≤ k) (h1 : k ≤ 4096) : k * k ≤ 16777216 := by
  have := mul_mono h0 h1 h0 h1
  rwa [show (4096 : Rat) * 4096 = 16777216 by grind] at this
theorem err_one {k x q : Rat} (h0 : 0 ≤ k) (h1 : k ≤ 4096) (h : ab (x - q) ≤ 32 * uu * (k * k)) (hq : ab q ≤ 1) : ab x ≤ 2 := by
  have h2 := Rat.mul_le_mul_of_nonneg_left (sq_k h0 h1) (show 0 ≤ 32 * uu from Rat.mul_nonneg (by decide) (Rat.le_of_lt uu_pos))
  have h3 := uu_eq
  have h4 := ab_near h hq
  have h5 := uu_pos
  generalize uu = u at *
  generalize k * k = kk at *
  grind
theorem grow_b {k u : Rat} (h0 : 0 ≤ k) (hu : 0 ≤ u) : 32 * u * (k * k) + 32 * u * k + 32 * u ≤ 32 * u * ((k + 1) * (k + 1)) := by
  have := Rat.mul_nonneg hu h0
  grind
theorem grow_a {k u : Rat} (h0 : 0 ≤ k) (hu : 0 ≤ u) : 32 * u * (k * k) ≤ 32 * u * ((k + 1) * (k + 1)) := by
  have := Rat.mul_nonneg hu h0
  grind
theorem grow_c {k u : Rat} : 32 * u * k + 32 * u = 32 * u * (k + 1) := by grind

/-- One step of either recurrence. -/
theorem good_step {T ρ δ : Rat} {q : Nat → Rat} {k x0 x1 x2 : Nat} (hT : ab T ≤ 1) (h0 : 0 ≤ ρ) (h1 : ρ ≤ 1) (f1 : F x1) (f2 : F x2)
    (hf : fm T (V x0 - q k) (V x1 - q (k + 1)) ≤ (32 * uu * (k : Rat)) * (32 * uu * (k : Rat))) (hb : ab (V x1 - q (k + 1)) ≤ 32 * uu * ((k : Rat) * (k : Rat)))
    (hq : q (k + 2) = (1 + ρ) * T * q (k + 1) - ρ * q k) (hx : V x2 = (1 + ρ) * T * V x1 - ρ * V x0 + δ) (hδ : ab δ ≤ 32 * uu) :
    Good T q (k + 1) (some x1) (some x2) := by
  have hk : (0 : Rat) ≤ (k : Rat) := Rat.natCast_nonneg
  have hu := Rat.le_of_lt uu_pos
  have hc : 0 ≤ 32 * uu * (k : Rat) := Rat.mul_nonneg (Rat.mul_nonneg (by decide) hu) hk
  have he : V x2 - q (k + 2) = (1 + ρ) * T * (V x1 - q (k + 1)) - ρ * (V x0 - q k) + δ := by
    rw [hx, hq]
    generalize V x1 = a; generalize V x0 = b; generalize q (k + 1) = c; generalize q k = d
    grind
  obtain ⟨g1, g2⟩ := stab_step hT h0 h1 hc hf hb he hδ
  rw [grow_c, ← cast_succ] at g1
  refine ⟨x1, x2, rfl, rfl, f1, f2, g1, ?_, ?_⟩
  · rw [cast_succ]; exact Rat.le_trans hb (grow_a hk hu)
  · rw [cast_succ]; exact Rat.le_trans g2 (grow_b hk hu)

theorem zero_sub_self (x : Rat) : x - x = 0 := by grind
theorem fm_zero (t : Rat) : fm t 0 0 = 0 := by unfold fm; grind
theorem good_zero {T : Rat} {q : Nat → Rat} {x0 x1 : Nat} (f0 : F x0) (f1 : F x1) (h0 : V x0 = q 0) (h1 : V x1 = q 1) : Good T q 0 (some x0) (some x1) := by
  have z : ab (0 : Rat) = 0 := ab_of_nonneg Rat.le_refl
  refine ⟨x0, x1, rfl, rfl, f0, f1, ?_, ?_, ?_⟩
  · rw [h0, h1, zero_sub_self, show q (0 + 1) = q 1 from rfl, zero_sub_self, fm_zero, show ((0 : Nat) : Rat) = 0 from rfl, Rat.mul_zero, Rat.mul_zero]; exact Rat.le_refl
  · rw [h0, zero_sub_self, z, show ((0 : Nat) : Rat) = 0 from rfl, Rat.mul_zero, Rat.mul_zero]; exact Rat.le_refl
  · rw [h1, show q (0 + 1) = q 1 from rfl, zero_sub_self, z, show ((0 : Nat) : Rat) = 0 from rfl, Rat.mul_zero, Rat.mul_zero]; exact Rat.le_refl

theorem tc_good {t : Nat} (ft : F t) (ht : ab (V t) ≤ 1) : ∀ k : Nat, k ≤ 4096 → Good (V t) (tq (V t)) k (tcF t k) (tcF t (k + 1))
  | 0, _ => good_zero val_one.1 ft val_one.2 rfl
  | k + 1, hk => by
    obtain ⟨x0, x1, e0, e1, f0, f1, hf, b0, b1⟩ := tc_good ft ht k (by omega)
    have hk0 : (0 : Rat) ≤ (k : Rat) := Rat.natCast_nonneg
    have hk1 : (k : Rat) ≤ 4096 := by exact_mod_cast (show k ≤ 4096 by omega)
    have hu := tq_unit ht k
    obtain ⟨r1, r2, r, g1, g2, g3, fr, w⟩ := tc_step ft f1 f0 ht (err_one hk0 hk1 b1 hu.2.2) (err_one hk0 hk1 b0 hu.2.1)
    have e2 : tcF t (k + 1 + 1) = some r := by
      show opF double.sub (opF double.mul (opF double.mul (some two) (some t)) (tcF t (k + 1))) (tcF t k) = _
      rw [e1, e0, opF_ss, g1, opF_ss, g2, opF_ss, g3]
    rw [e1, e2]
    refine good_step (ρ := 1) (x0 := x0) ht (by decide) (by decide) f1 fr hf b1 ?_ ?_ w
    · show 2 * V t * tq (V t) (k + 1) - tq (V t) k = _
      grind
    · generalize V r = a; generalize V x1 = b; generalize V x0 = c; generalize V t = d
      grind

theorem delta_of {k r T x1 x0 ρ : Rat} (hk : 0 ≤ k) (hρ : ρ * (k + 2) = k + 1) (h : ab (r * (k + 1 + 1) - ((2 * (k + 1) + 1) * T * x1 - (k + 1) * x0)) ≤ 32 * uu * (k + 1 + 1)) :
    ab (r - ((1 + ρ) * T * x1 - ρ * x0)) ≤ 32 * uu := by
  have e : r * (k + 1 + 1) - ((2 * (k + 1) + 1) * T * x1 - (k + 1) * x0) = (r - ((1 + ρ) * T * x1 - ρ * x0)) * (k + 1 + 1) := by
    have : (r - ((1 + ρ) * T * x1 - ρ * x0)) * (k + 1 + 1) = r * (k + 1 + 1) - ((k + 2 + ρ * (k + 2)) * T * x1 - ρ * (k + 2) * x0) := by grind
    rw [this, hρ]; grind
  rw [e, ab_mul, ab_of_nonneg (x := k + 1 + 1) (by grind)] at h
  exact of_scale (N := k + 1) (by grind) h

theorem leg_good {t : Nat} (ft : F t) (ht : ab (V t) ≤ 1) : ∀ k : Nat, k ≤ 4095 → Good (V t) (pq (V t)) k (leg (some t) k) (leg (some t) (k + 1))
  | 0, _ => good_zero val_one.1 ft val_one.2 rfl
  | k + 1, hk => by
    obtain ⟨x0, x1, e0, e1, f0, f1, hf, b0, b1⟩ := leg_good ft ht k (by omega)
    have hk0 : (0 : Rat) ≤ (k : Rat) := Rat.natCast_nonneg
    have hk1 : (k : Rat) ≤ 4096 := by exact_mod_cast (show k ≤ 4096 by omega)
    have hu := pq_unit ht k
    obtain ⟨r, e2, fr, w⟩ := leg_step (n := k + 1) (by omega) ft f1 f0 ht (err_one hk0 hk1 b1 hu.2.2) (err_one hk0 hk1 b0 hu.2.1)
    rw [cast_succ] at w
    have w' := delta_of hk0 (rq_mul k) w
    have e3 : leg (some t) (k + 1 + 1) = some r := by rw [leg_two, e1, e0]; exact e2
    rw [e1, e3]
    refine good_step (ρ := rq k) (x0 := x0) ht (rq_in k).1 (rq_in k).2 f1 fr hf b1 (pq_rq _ k) ?_ w'
    generalize V r = a; generalize (1 + rq k) * V t * V x1 - rq k * V x0 = b
    grind

theorem tc_ok {t : Nat} (ft : F t) (ht : ab (V t) ≤ 1) (k : Nat) (hk : k ≤ 4096) : ∃ x, tcF t k = some x ∧ F x ∧ ab (V x - tq (V t) k) ≤ 32 * uu * ((k : Rat) * (k : Rat)) := by
  obtain ⟨x0, x1, e0, e1, f0, f1, hf, b0, b1⟩ := tc_good ft ht k hk
  exact ⟨x0, e0, f0, b0⟩
theorem leg_ok {t : Nat} (ft : F t) (ht : ab (V t) ≤ 1) (k : Nat) (hk : k ≤ 4095) : ∃ x, leg (some t) k = some x ∧ F x ∧ ab (V x - pq (V t) k) ≤ 32 * uu * ((k : Rat) * (k : Rat)) := by
  obtain ⟨x0, x1, e0, e1, f0, f1, hf, b0, b1⟩ := leg_good ft ht k hk
  exact ⟨x0, e0, f0, b0⟩

/-! ### The weights -/
theorem ac_a (N : Rat) : 2 * N + 1 ≤ 2 * (N + 1) := by grind
theorem ac_e {N : Rat} (h0 : 0 ≤ N) (hn : N ≤ 16384) : (2 * uu * 2 + ee) * (N + 1) + (uu * (2 * N) + ee) ≤ 9 * uu * (N + 1) := by
  have h2 := ee_le; have h3 := uu_pos; have h4 := ee_pos; have h5 := un_in h0 hn
  have h6 : 0 ≤ ee * N := Rat.mul_nonneg (Rat.le_of_lt h4) h0
  have h7 : ee * N * 1048576 ≤ uu * N := by
    have := Rat.mul_le_mul_of_nonneg_right h2 h0
    grind
  generalize uu = u at *; generalize ee = e at *
  grind
theorem ac_alg {N x r1 r Q a f : Rat} (hN : 0 ≤ N) (h1 : ab (r1 - x * N) ≤ a) (hQ : Q * (N + 1) = r1) (h5 : ab (r - Q) ≤ f) :
    ab (r * (N + 1) - x * N) ≤ f * (N + 1) + a := by
  have e : r * (N + 1) - x * N = (r - Q) * (N + 1) + (r1 - x * N) := by rw [← hQ]; grind
  rw [e]
  refine ab_add_le (ab_mul_le h5 ?_) h1
  rw [ab_of_nonneg (by grind)]; exact Rat.le_refl
theorem ac_step {x m : Nat} (hm : m ≤ 4096) (fx : F x) (hx : ab (V x) ≤ 2) :
    ∃ r1 r, double.mul x (flN (2 * m + 1)) = some r1 ∧ double.div r1 (flN (2 * m + 2)) = some r ∧ F r ∧ ab (V r * (2 * (m : Rat) + 1 + 1) - V x * (2 * (m : Rat) + 1)) ≤ 9 * uu * (2 * (m : Rat) + 1 + 1) := by
  obtain ⟨f1, v1⟩ := flN_spec (2 * m + 1) (by omega)
  obtain ⟨f2, v2⟩ := flN_spec (2 * m + 2) (by omega)
  have cast1 : ((2 * m + 1 : Nat) : Rat) = 2 * (m : Rat) + 1 := by rw [Rat.natCast_add, Rat.natCast_mul]; rfl
  have cast2 : ((2 * m + 2 : Nat) : Rat) = 2 * (m : Rat) + 1 + 1 := by rw [show 2 * m + 2 = 2 * m + 1 + 1 from rfl, cast_succ, cast1]
  rw [cast1] at v1
  rw [cast2] at v2
  have hm0 : (0 : Rat) ≤ (m : Rat) := Rat.natCast_nonneg
  have hm1 : (m : Rat) ≤ 4096 := by exact_mod_cast hm
  obtain ⟨N, hN⟩ : ∃ N, 2 * (m : Rat) + 1 = N := ⟨_, rfl⟩
  have hk0 : 0 ≤ N := by rw [← hN]; grind
  have hk1 : N ≤ 16384 := by rw [← hN]; grind
  rw [hN] at v1 v2 ⊢
  have b1 : ab (V x * V (flN (2 * m + 1))) ≤ 2 * N := ab_mul_le hx (by rw [v1]; exact ab_N hk0)
  obtain ⟨r1, g1, fr1, w1⟩ := mul_err fx f1 b1 (lt_of_6 hk0 hk1 (c := 4) (by grind) (by decide))
  have c1 : ab (V r1) ≤ 2 * N + 1 := Rat.le_trans (ab_near w1 b1) (lg_c hk0 hk1)
  have hb0 : V (flN (2 * m + 2)) ≠ 0 := by rw [v2]; exact ne0 hk0
  obtain ⟨Q, hQ⟩ : ∃ Q, V r1 / V (flN (2 * m + 2)) = Q := ⟨_, rfl⟩
  have hQb : Q * V (flN (2 * m + 2)) = V r1 := by rw [← hQ]; exact Rat.div_mul_cancel hb0
  have hQN : Q * (N + 1) = V r1 := by rw [← v2]; exact hQb
  have c2 : ab Q ≤ 2 := of_scale hk0 (by rw [← ab_scale hk0 hQN]; exact Rat.le_trans c1 (ac_a N))
  obtain ⟨r, g2, fr, w2⟩ := div_err fr1 f2 hb0 hQb c2 (by decide)
  rw [v1] at w1
  exact ⟨r1, r, g1, g2, fr, Rat.le_trans (ac_alg hk0 w1 hQN w2) (ac_e hk0 hk1)⟩
theorem ac_next {m r x a a' e u : Rat} (hm : 0 ≤ m) (h : ab (r * (2 * m + 1 + 1) - x * (2 * m + 1)) ≤ 9 * u * (2 * m + 1 + 1)) (ha : 2 * (m + 1) * a' = (2 * m + 1) * a) (hx : ab (x - a) ≤ e) : ab (r - a') ≤ 9 * u + e := by
  have hN : 0 ≤ 2 * m + 1 := by grind
  refine of_scale (N := 2 * m + 1) hN ?_
  rw [show ab (r - a') * (2 * m + 1 + 1) = ab ((r - a') * (2 * m + 1 + 1)) by rw [ab_mul, ab_of_nonneg (x := 2 * m + 1 + 1) (by grind)]]
  have e1 : (r - a') * (2 * m + 1 + 1) = (r * (2 * m + 1 + 1) - x * (2 * m + 1)) + (x - a) * (2 * m + 1) := by
    have : a' * (2 * m + 1 + 1) = 2 * (m + 1) * a' := by grind
    have e2 : (r - a') * (2 * m + 1 + 1) = r * (2 * m + 1 + 1) - a' * (2 * m + 1 + 1) := by grind
    rw [e2, this, ha]; grind
  rw [e1]
  have h2 := ab_add_le h (ab_mul_le hx (show ab (2 * m + 1) ≤ 2 * m + 1 + 1 by rw [ab_of_nonneg hN]; grind))
  have e3 : (9 * u + e) * (2 * m + 1 + 1) = 9 * u * (2 * m + 1 + 1) + e * (2 * m + 1 + 1) := by grind
  rw [e3]; exact h2
theorem ac_two {m x q : Rat} (h1 : m ≤ 4096) (h : ab (x - q) ≤ 9 * uu * m) (hq : ab q ≤ 1) : ab x ≤ 2 := by
  have h2 := Rat.mul_le_mul_of_nonneg_left h1 (show 0 ≤ 9 * uu from Rat.mul_nonneg (by decide) (Rat.le_of_lt uu_pos))
  have h3 := uu_eq
  have h4 := ab_near h hq
  have h5 := uu_pos
  generalize uu = u at *
  grind
theorem ab_aq (k : Nat) : ab (aq k) ≤ 1 := by rw [ab_of_nonneg (aq_unit k).1]; exact (aq_unit k).2
theorem ac_ok : ∀ m : Nat, m ≤ 4096 → ∃ x, acF m = some x ∧ F x ∧ ab (V x - aq m) ≤ 9 * uu * (m : Rat)
  | 0, _ => ⟨one, rfl, val_one.1, by
      rw [val_one.2, show aq 0 = 1 from rfl, zero_sub_self, show ((0 : Nat) : Rat) = 0 from rfl, Rat.mul_zero, ab_of_nonneg Rat.le_refl]; exact Rat.le_refl⟩
  | m + 1, hm => by
    obtain ⟨x, e, fx, w⟩ := ac_ok m (by omega)
    have hm0 : (0 : Rat) ≤ (m : Rat) := Rat.natCast_nonneg
    have hm1 : (m : Rat) ≤ 4096 := by exact_mod_cast (show m ≤ 4096 by omega)
    obtain ⟨r1, r, g1, g2, fr, w2⟩ := ac_step (m := m) (by omega) fx (ac_two hm1 w (ab_aq m))
    refine ⟨r, ?_, fr, ?_⟩
    · show opF double.div (opF double.mul (acF m) (some (flN (2 * m + 1)))) (some (flN (2 * m + 2))) = _
      rw [e, opF_ss, g1, opF_ss, g2]
    · refine Rat.le_trans (ac_next hm0 w2 (aq_step m) w) ?_
      rw [cast_succ, Rat.mul_add, Rat.mul_one, Rat.add_comm]; exact Rat.le_refl
end Go.Proofs.Qxb6621625a
