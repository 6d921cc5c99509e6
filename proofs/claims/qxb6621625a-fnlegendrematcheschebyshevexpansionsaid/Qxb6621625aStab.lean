/- THE STABILITY OF BOTH RECURRENCES, over the rationals: the form (1 - t^2) x^2 + (x' - t x)^2 does not grow. And the bounds of each rounded step. No Go in sight. -/
import Derived.Test.Qxb6621625aCheb
namespace Go.Proofs.Qxb6621625a

/-! ### Small facts on absolute values -/
theorem le_tr {a b c : Rat} (h : a ≤ b) (h' : b ≤ c) : a ≤ c := Rat.le_trans h h'
theorem mul_mono {a b c d : Rat} (h0 : 0 ≤ a) (h1 : a ≤ b) (h2 : 0 ≤ c) (h3 : c ≤ d) : a * c ≤ b * d :=
  Rat.le_trans (Rat.mul_le_mul_of_nonneg_right h1 h2) (Rat.mul_le_mul_of_nonneg_left h3 (Rat.le_trans h0 h1))
theorem ab_mul_le {x y a b : Rat} (hx : ab x ≤ a) (hy : ab y ≤ b) : ab (x * y) ≤ a * b := by
  rw [ab_mul]; exact mul_mono (ab_nonneg x) hx (ab_nonneg y) hy
theorem ab_add_le {x y a b : Rat} (hx : ab x ≤ a) (hy : ab y ≤ b) : ab (x + y) ≤ a + b :=
  Rat.le_trans (ab_add x y) (by grind)
theorem ab_sub_le {x y a b : Rat} (hx : ab x ≤ a) (hy : ab y ≤ b) : ab (x - y) ≤ a + b :=
  Rat.le_trans (ab_sub x y) (by grind)
theorem ab_sq (x : Rat) : ab x * ab x = x * x := by unfold ab; split <;> grind
theorem sq_nonneg (x : Rat) : 0 ≤ x * x := by rw [← ab_sq]; exact Rat.mul_nonneg (ab_nonneg x) (ab_nonneg x)
theorem ab_of_sq {y c : Rat} (h : y * y ≤ c * c) (hc : 0 ≤ c) : ab y ≤ c := by
  rw [← ab_sq] at h
  have h0 := ab_nonneg y
  generalize ab y = z at *
  by_cases hz : z ≤ c
  · exact hz
  · have hlt : c < z := by grind
    have h1 : c * c ≤ c * z := Rat.mul_le_mul_of_nonneg_left (Rat.le_of_lt hlt) hc
    have h2 : c * z < z * z := (Rat.mul_lt_mul_right (by grind)).mpr hlt
    grind
theorem ab_near {r v e b : Rat} (h : ab (r - v) ≤ e) (hv : ab v ≤ b) : ab r ≤ b + e := by
  have := ab_add (r - v) v
  rw [show r - v + v = r by grind] at this
  grind
theorem ab_tri {r v w e f : Rat} (h : ab (r - v) ≤ e) (h' : ab (v - w) ≤ f) : ab (r - w) ≤ e + f := by
  have := ab_add (r - v) (v - w)
  rw [show r - v + (v - w) = r - w by grind] at this
  grind

/-! ### The form -/
/-- The form of two neighbours x' (the earlier) and x. -/
def fm (t x' x : Rat) : Rat := (1 - t * t) * (x * x) + (x' - t * x) * (x' - t * x)

theorem s_nonneg {t : Rat} (ht : ab t ≤ 1) : 0 ≤ 1 - t * t := by
  have h := mul_mono (ab_nonneg t) ht (ab_nonneg t) ht
  rw [ab_sq] at h; grind

theorem fm_rot (t ρ x0 x1 δ : Rat) : fm t x1 ((1 + ρ) * t * x1 - ρ * x0 + δ) = (1 - t * t) * (x1 * x1) + (ρ * (x0 - t * x1) - δ) * (ρ * (x0 - t * x1) - δ) := by
  unfold fm; grind

theorem sq_part {s x y c : Rat} (hs : 0 ≤ s) (h : s * (x * x) + y * y ≤ c * c) (hc : 0 ≤ c) : ab y ≤ c := by
  refine ab_of_sq ?_ hc
  have := Rat.mul_nonneg hs (sq_nonneg x)
  grind

theorem scaled_sq {ρ y : Rat} (h0 : 0 ≤ ρ) (h1 : ρ ≤ 1) : ρ * y * (ρ * y) ≤ y * y := by
  have h := sq_nonneg y
  have h2 : ρ * ρ ≤ 1 * 1 := mul_mono h0 h1 h0 h1
  have h3 := Rat.mul_le_mul_of_nonneg_right h2 h
  grind

theorem sq_shift {a z δ c d : Rat} (h : a + z * z ≤ c * c) (hz : ab z ≤ c) (hδ : ab δ ≤ d) : a + (z - δ) * (z - δ) ≤ (c + d) * (c + d) := by
  have h1 : δ * δ ≤ d * d := by rw [← ab_sq δ]; exact mul_mono (ab_nonneg δ) hδ (ab_nonneg δ) hδ
  have h2 : ab (z * δ) ≤ c * d := ab_mul_le hz hδ
  have h3 := neg_le_ab (z * δ)
  grind

/-- One step with the local error δ. -/
theorem stab_step {t ρ x0 x1 x2 δ c b d : Rat} (ht : ab t ≤ 1) (h0 : 0 ≤ ρ) (h1 : ρ ≤ 1) (hc : 0 ≤ c)
    (hf : fm t x0 x1 ≤ c * c) (hb : ab x1 ≤ b) (hx : x2 = (1 + ρ) * t * x1 - ρ * x0 + δ) (hδ : ab δ ≤ d) :
    fm t x1 x2 ≤ (c + d) * (c + d) ∧ ab x2 ≤ b + c + d := by
  have hs := s_nonneg ht
  have hy : ab (x0 - t * x1) ≤ c := sq_part hs hf hc
  have hz : ab (ρ * (x0 - t * x1)) ≤ 1 * c := ab_mul_le (by rw [ab_of_nonneg h0]; exact h1) hy
  rw [Rat.one_mul] at hz
  refine ⟨?_, ?_⟩
  · rw [hx, fm_rot]
    refine sq_shift ?_ hz hδ
    have h2 := scaled_sq (y := x0 - t * x1) h0 h1
    unfold fm at hf
    generalize (x0 - t * x1) * (x0 - t * x1) = w at *
    generalize ρ * (x0 - t * x1) * (ρ * (x0 - t * x1)) = w' at *
    grind
  · have e : x2 = t * x1 - ρ * (x0 - t * x1) + δ := by rw [hx]; grind
    rw [e]
    have h3 : ab (t * x1) ≤ 1 * b := ab_mul_le ht hb
    rw [Rat.one_mul] at h3
    exact ab_add_le (ab_sub_le h3 hz) hδ

/-- The exact sequences stay within 1. -/
theorem unit_of {t x0 x1 : Rat} (ht : ab t ≤ 1) (hf : fm t x0 x1 ≤ 1 - t * t) (h0 : ab x0 ≤ 1) : ab x1 ≤ 1 := by
  have hs := s_nonneg ht
  unfold fm at hf
  have hy := sq_nonneg (x0 - t * x1)
  by_cases hz : 1 - t * t = 0
  · have ht2 : t * t = 1 := by grind
    rw [hz] at hf
    have hy0 : ab (x0 - t * x1) ≤ 0 := ab_of_sq (by grind) Rat.le_refl
    have hy1 : x0 - t * x1 = 0 := by
      have := ab_le.mp hy0
      grind
    have hx : x1 = t * x0 := by
      have h2 : x0 = t * x1 := by grind
      rw [h2, ← Rat.mul_assoc, ht2, Rat.one_mul]
    rw [hx]
    have := ab_mul_le ht h0
    rwa [Rat.one_mul] at this
  · have hp : 0 < 1 - t * t := by grind
    refine ab_of_sq ?_ (by decide)
    refine Rat.le_of_mul_le_mul_left (c := 1 - t * t) ?_ hp
    generalize (x0 - t * x1) * (x0 - t * x1) = w at *
    generalize x1 * x1 = v at *
    grind
theorem unit_step {t ρ x0 x1 x2 : Rat} (ht : ab t ≤ 1) (h0 : 0 ≤ ρ) (h1 : ρ ≤ 1) (hf : fm t x0 x1 ≤ 1 - t * t) (hb : ab x1 ≤ 1)
    (hx : x2 = (1 + ρ) * t * x1 - ρ * x0) : fm t x1 x2 ≤ 1 - t * t ∧ ab x2 ≤ 1 := by
  have e : fm t x1 x2 ≤ 1 - t * t := by
    rw [hx, show (1 + ρ) * t * x1 - ρ * x0 = (1 + ρ) * t * x1 - ρ * x0 + 0 by grind, fm_rot]
    have h2 := scaled_sq (y := x0 - t * x1) h0 h1
    unfold fm at hf
    rw [show ρ * (x0 - t * x1) - 0 = ρ * (x0 - t * x1) by grind]
    generalize (x0 - t * x1) * (x0 - t * x1) = w at *
    generalize ρ * (x0 - t * x1) * (ρ * (x0 - t * x1)) = w' at *
    grind
  exact ⟨e, unit_of ht e hb⟩

theorem fm_start (t : Rat) : fm t 1 t = 1 - t * t := by unfold fm; grind
theorem ab_one : ab (1 : Rat) = 1 := ab_of_nonneg (by decide)

theorem tq_unit {t : Rat} (ht : ab t ≤ 1) : ∀ k : Nat, fm t (tq t k) (tq t (k + 1)) ≤ 1 - t * t ∧ ab (tq t k) ≤ 1 ∧ ab (tq t (k + 1)) ≤ 1
  | 0 => ⟨by show fm t 1 t ≤ _; rw [fm_start]; exact Rat.le_refl, by show ab (1 : Rat) ≤ 1; rw [ab_one]; exact Rat.le_refl, ht⟩
  | k + 1 => by
    obtain ⟨h1, _, h3⟩ := tq_unit ht k
    have h := unit_step (x2 := tq t (k + 1 + 1)) (ρ := 1) ht (by decide) (by decide) h1 h3 (by
      show 2 * t * tq t (k + 1) - tq t k = _
      grind)
    exact ⟨h.1, h3, h.2⟩
/-- Legendre's weight. -/
def rq (k : Nat) : Rat := ((k : Rat) + 1) / ((k : Rat) + 2)
theorem rq_mul (k : Nat) : rq k * ((k : Rat) + 2) = (k : Rat) + 1 := by
  have h : (0 : Rat) ≤ (k : Rat) := Rat.natCast_nonneg
  exact Rat.div_mul_cancel (by grind)
theorem rq_in (k : Nat) : 0 ≤ rq k ∧ rq k ≤ 1 := by
  have h : (0 : Rat) ≤ (k : Rat) := Rat.natCast_nonneg
  have h1 := rq_mul k
  have hp : (0 : Rat) < (k : Rat) + 2 := by grind
  generalize rq k = r at *
  generalize (k : Rat) = x at *
  constructor
  · refine Rat.le_of_mul_le_mul_right (c := x + 2) ?_ hp
    grind
  · refine Rat.le_of_mul_le_mul_right (c := x + 2) ?_ hp
    grind
theorem solve_rq {k x2 t x1 x0 δ r : Rat} (hk : 0 ≤ k) (hr : r * (k + 2) = k + 1) (h : (k + 2) * x2 = (2 * k + 3) * t * x1 - (k + 1) * x0 + (k + 2) * δ) :
    x2 = (1 + r) * t * x1 - r * x0 + δ := by
  have hp : k + 2 ≠ 0 := by grind
  have : (k + 2) * (x2 - ((1 + r) * t * x1 - r * x0 + δ)) = 0 := by
    have e : (k + 2) * (x2 - ((1 + r) * t * x1 - r * x0 + δ)) = (k + 2) * x2 - ((k + 2 + r * (k + 2)) * t * x1 - (r * (k + 2)) * x0 + (k + 2) * δ) := by grind
    rw [e, hr, h]; grind
  rcases Rat.mul_eq_zero.mp this with h | h
  · exact absurd h hp
  · grind
theorem pq_rq (t : Rat) (k : Nat) : pq t (k + 2) = (1 + rq k) * t * pq t (k + 1) - rq k * pq t k := by
  have h : (0 : Rat) ≤ (k : Rat) := Rat.natCast_nonneg
  have := solve_rq (δ := 0) h (rq_mul k) (x2 := pq t (k + 2)) (t := t) (x1 := pq t (k + 1)) (x0 := pq t k) (by rw [pq_step]; grind)
  rw [this]; grind
theorem pq_unit {t : Rat} (ht : ab t ≤ 1) : ∀ k : Nat, fm t (pq t k) (pq t (k + 1)) ≤ 1 - t * t ∧ ab (pq t k) ≤ 1 ∧ ab (pq t (k + 1)) ≤ 1
  | 0 => ⟨by show fm t 1 t ≤ _; rw [fm_start]; exact Rat.le_refl, by show ab (1 : Rat) ≤ 1; rw [ab_one]; exact Rat.le_refl, ht⟩
  | k + 1 => by
    obtain ⟨h1, _, h3⟩ := pq_unit ht k
    have h := unit_step (x2 := pq t (k + 1 + 1)) ht (rq_in k).1 (rq_in k).2 h1 h3 (pq_rq t k)
    exact ⟨h.1, h3, h.2⟩

theorem aq_unit : ∀ k : Nat, 0 ≤ aq k ∧ aq k ≤ 1
  | 0 => ⟨by show (0 : Rat) ≤ 1; decide, by show (1 : Rat) ≤ 1; decide⟩
  | k + 1 => by
    obtain ⟨h0, h1⟩ := aq_unit k
    have hs := aq_step k
    have h : (0 : Rat) ≤ (k : Rat) := Rat.natCast_nonneg
    generalize (k : Rat) = x at *
    generalize aq (k + 1) = y at *
    generalize aq k = z at *
    have hz : 0 ≤ (2 * x + 1) * z := Rat.mul_nonneg (by grind) h0
    have hz1 : (2 * x + 1) * z ≤ (2 * x + 1) * 1 := Rat.mul_le_mul_of_nonneg_left h1 (by grind)
    constructor
    · refine Rat.le_of_mul_le_mul_left (c := 2 * (x + 1)) ?_ (by grind)
      grind
    · refine Rat.le_of_mul_le_mul_left (c := 2 * (x + 1)) ?_ (by grind)
      grind
end Go.Proofs.Qxb6621625a
