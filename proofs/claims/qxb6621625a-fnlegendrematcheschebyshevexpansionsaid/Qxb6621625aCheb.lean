/- THE PLAIN MATHEMATICS OF THE CHEBYSHEV EXPANSION, over the rationals: the identity P_k = sum of a_i a_j T_|i-j|, and the stability of both recurrences. No Go and no float in sight. -/
import Derived.Test.Qxb6621625aOps
namespace Go.Proofs.Qxb6621625a

/-! ### Sums along a diagonal -/
/-- The sum of g i j over i + j = k. -/
def dg : (Nat → Nat → Rat) → Nat → Rat
  | g, 0 => g 0 0
  | g, k + 1 => g 0 (k + 1) + dg (fun i j => g (i + 1) j) k

theorem dg_right (g : Nat → Nat → Rat) (k : Nat) : dg g (k + 1) = g (k + 1) 0 + dg (fun i j => g i (j + 1)) k := by
  induction k generalizing g with
  | zero => simp only [dg]; grind
  | succ k ih =>
    have h1 : dg g (k + 1 + 1) = g 0 (k + 1 + 1) + dg (fun i j => g (i + 1) j) (k + 1) := rfl
    have h2 := ih (fun i j => g (i + 1) j)
    have h3 : dg (fun i j => g i (j + 1)) (k + 1) = g 0 (k + 1 + 1) + dg (fun i j => g (i + 1) (j + 1)) k := rfl
    rw [h1, h2, h3]
    grind
theorem dg_swap (g : Nat → Nat → Rat) (k : Nat) : dg g k = dg (fun i j => g j i) k := by
  induction k generalizing g with
  | zero => rfl
  | succ k ih =>
    rw [dg_right (fun i j => g j i) k]
    show g 0 (k + 1) + dg (fun i j => g (i + 1) j) k = _
    rw [ih]
theorem dg_congr {g h : Nat → Nat → Rat} {k : Nat} (e : ∀ i j, i + j = k → g i j = h i j) : dg g k = dg h k := by
  induction k generalizing g h with
  | zero => exact e 0 0 rfl
  | succ k ih =>
    show g 0 (k + 1) + _ = h 0 (k + 1) + _
    rw [e 0 (k + 1) (by omega), ih (fun i j hij => e (i + 1) j (by omega))]
theorem dg_add (g h : Nat → Nat → Rat) (k : Nat) : dg (fun i j => g i j + h i j) k = dg g k + dg h k := by
  induction k generalizing g h with
  | zero => rfl
  | succ k ih =>
    show g 0 (k + 1) + h 0 (k + 1) + dg (fun i j => g (i + 1) j + h (i + 1) j) k = (g 0 (k + 1) + dg (fun i j => g (i + 1) j) k) + (h 0 (k + 1) + dg (fun i j => h (i + 1) j) k)
    rw [ih]; grind
theorem dg_mul (c : Rat) (g : Nat → Nat → Rat) (k : Nat) : dg (fun i j => c * g i j) k = c * dg g k := by
  induction k generalizing g with
  | zero => rfl
  | succ k ih =>
    show c * g 0 (k + 1) + dg (fun i j => c * g (i + 1) j) k = c * (g 0 (k + 1) + dg (fun i j => g (i + 1) j) k)
    rw [ih]; grind

/-- The sum of f i over i < n, in the loop's order. -/
def sm (f : Nat → Rat) : Nat → Rat
  | 0 => 0
  | n + 1 => sm f n + f n
theorem sm_left (f : Nat → Rat) (n : Nat) : sm f (n + 1) = f 0 + sm (fun i => f (i + 1)) n := by
  induction n with
  | zero => simp only [sm]; grind
  | succ n ih =>
    show sm f (n + 1) + f (n + 1) = f 0 + (sm (fun i => f (i + 1)) n + f (n + 1))
    rw [ih]; grind
theorem sm_congr {f h : Nat → Rat} {n : Nat} (e : ∀ i, i < n → f i = h i) : sm f n = sm h n := by
  induction n with
  | zero => rfl
  | succ n ih =>
    show sm f n + f n = sm h n + h n
    rw [ih (fun i hi => e i (by omega)), e n (by omega)]
theorem sm_dg (g : Nat → Nat → Rat) (k : Nat) : sm (fun i => g i (k - i)) (k + 1) = dg g k := by
  induction k generalizing g with
  | zero => simp only [sm, dg]; grind
  | succ k ih =>
    rw [sm_left, ← show g 0 (k + 1) + dg (fun i j => g (i + 1) j) k = dg g (k + 1) from rfl, ← ih (fun i j => g (i + 1) j)]
    rw [sm_congr (f := fun i => g (i + 1) (k + 1 - (i + 1))) (h := fun i => g (i + 1) (k - i)) (fun i _ => by show g (i + 1) (k + 1 - (i + 1)) = g (i + 1) (k - i); rw [Nat.add_sub_add_right])]
    rfl

/-! ### The three sequences -/
/-- a_m: the m-th of the binomials of 2 m over m, divided by 4 to the m. -/
def aq : Nat → Rat
  | 0 => 1
  | m + 1 => aq m * (2 * (m : Rat) + 1) / (2 * (m : Rat) + 2)
/-- Chebyshev's T. -/
def tq (t : Rat) : Nat → Rat
  | 0 => 1
  | 1 => t
  | m + 2 => 2 * t * tq t (m + 1) - tq t m
/-- Legendre's P. -/
def pq (t : Rat) : Nat → Rat
  | 0 => 1
  | 1 => t
  | m + 2 => ((2 * (m : Rat) + 3) * t * pq t (m + 1) - ((m : Rat) + 1) * pq t m) / ((m : Rat) + 2)

theorem aq_step (m : Nat) : 2 * ((m : Rat) + 1) * aq (m + 1) = (2 * (m : Rat) + 1) * aq m := by
  have h : (0 : Rat) ≤ (m : Rat) := Rat.natCast_nonneg
  show 2 * ((m : Rat) + 1) * (aq m * (2 * (m : Rat) + 1) / (2 * (m : Rat) + 2)) = _
  generalize (m : Rat) = x at *
  generalize aq m = y
  have h2 : 2 * x + 2 ≠ 0 := by grind
  have h3 : y * (2 * x + 1) / (2 * x + 2) * (2 * x + 2) = y * (2 * x + 1) := Rat.div_mul_cancel h2
  grind
theorem pq_step (t : Rat) (m : Nat) : ((m : Rat) + 2) * pq t (m + 2) = (2 * (m : Rat) + 3) * t * pq t (m + 1) - ((m : Rat) + 1) * pq t m := by
  have h : (0 : Rat) ≤ (m : Rat) := Rat.natCast_nonneg
  show ((m : Rat) + 2) * (((2 * (m : Rat) + 3) * t * pq t (m + 1) - ((m : Rat) + 1) * pq t m) / ((m : Rat) + 2)) = _
  generalize ((2 * (m : Rat) + 3) * t * pq t (m + 1) - ((m : Rat) + 1) * pq t m) = y
  rw [Rat.mul_comm]
  exact Rat.div_mul_cancel (by grind)

/-- T at an integer, even. -/
def cq (t : Rat) (z : Int) : Rat := tq t z.natAbs
theorem cq_neg (t : Rat) (z : Int) : cq t (-z) = cq t z := by unfold cq; rw [Int.natAbs_neg]
theorem cq_step (t : Rat) (z : Int) : cq t (z + 1) + cq t (z - 1) = 2 * t * cq t z := by
  have pos : ∀ n : Nat, cq t ((n : Int) + 1) + cq t ((n : Int) - 1) = 2 * t * cq t (n : Int) := by
    intro n
    unfold cq
    cases n with
    | zero => show t + t = 2 * t * 1; grind
    | succ n =>
      rw [show (((n + 1 : Nat) : Int) + 1).natAbs = n + 2 by omega, show (((n + 1 : Nat) : Int) - 1).natAbs = n by omega, show (((n + 1 : Nat) : Int)).natAbs = n + 1 by omega]
      show 2 * t * tq t (n + 1) - tq t n + tq t n = _
      grind
  rcases Int.le_total 0 z with h | h
  · have := pos z.toNat
    rwa [Int.toNat_of_nonneg h] at this
  · have := pos (-z).toNat
    rw [Int.toNat_of_nonneg (by omega)] at this
    rw [← cq_neg t (z + 1), ← cq_neg t (z - 1), ← cq_neg t z, show -(z + 1) = -z - 1 by omega, show -(z - 1) = -z + 1 by omega]
    grind

def gq (t : Rat) (i j : Nat) : Rat := aq i * aq j * cq t ((i : Int) - j)
theorem gq_swap (t : Rat) (i j : Nat) : gq t j i = gq t i j := by
  unfold gq
  rw [← cq_neg t ((i : Int) - j), show -((i : Int) - j) = (j : Int) - i by omega, Rat.mul_comm (aq j)]
/-- a_i a_j T_(i-j+1). -/
def hq (t : Rat) (i j : Nat) : Rat := aq i * aq j * cq t ((i : Int) - j + 1)

theorem cast_succ (i : Nat) : ((i + 1 : Nat) : Rat) = (i : Rat) + 1 := by rw [Rat.natCast_add]; rfl

/-- (A) -/
theorem diag_A (t : Rat) (k : Nat) : ((k : Rat) + 1) * dg (gq t) (k + 1) = dg (fun i j => (2 * (i : Rat) + 1) * hq t i j) k := by
  have e1 : dg (fun i j => 2 * (i : Rat) * gq t i j) (k + 1) = dg (fun i j => (2 * (i : Rat) + 1) * hq t i j) k := by
    show 2 * ((0 : Nat) : Rat) * gq t 0 (k + 1) + dg (fun i j => 2 * ((i + 1 : Nat) : Rat) * gq t (i + 1) j) k = _
    rw [dg_congr (h := fun i j => (2 * (i : Rat) + 1) * hq t i j)]
    · rw [show ((0 : Nat) : Rat) = 0 from rfl]; grind
    · intro i j _
      have h := aq_step i
      unfold gq hq
      rw [show ((i + 1 : Nat) : Int) - j = (i : Int) - j + 1 by omega, cast_succ]
      generalize cq t ((i : Int) - j + 1) = c
      generalize aq j = y at *
      have : 2 * ((i : Rat) + 1) * (aq (i + 1) * y * c) = (2 * ((i : Rat) + 1) * aq (i + 1)) * (y * c) := by grind
      rw [this, h]; grind
  have e2 : dg (fun i j => 2 * (i : Rat) * gq t i j) (k + 1) = dg (fun i j => 2 * (j : Rat) * gq t i j) (k + 1) := by
    rw [dg_swap]
    exact dg_congr (fun i j _ => by rw [gq_swap])
  have e3 : dg (fun i j => 2 * (i : Rat) * gq t i j + 2 * (j : Rat) * gq t i j) (k + 1) = dg (fun i j => 2 * ((k : Rat) + 1) * gq t i j) (k + 1) := by
    refine dg_congr (fun i j hij => ?_)
    have : (i : Rat) + (j : Rat) = (k : Rat) + 1 := by rw [← cast_succ, ← hij, Rat.natCast_add]
    generalize gq t i j = g
    grind
  rw [dg_add, dg_mul, ← e2, e1] at e3
  grind
/-- (B) -/
theorem diag_B (t : Rat) (k : Nat) : t * dg (gq t) k = dg (hq t) k := by
  have e1 : dg (fun i j => 2 * t * gq t i j) k = dg (fun i j => hq t i j + hq t j i) k := by
    refine dg_congr (fun i j _ => ?_)
    unfold gq hq
    have h := cq_step t ((i : Int) - j)
    have h2 : cq t ((j : Int) - i + 1) = cq t ((i : Int) - j - 1) := by rw [← cq_neg, show -((j : Int) - i + 1) = (i : Int) - j - 1 by omega]
    rw [h2]
    generalize cq t ((i : Int) - j + 1) = x at *
    generalize cq t ((i : Int) - j - 1) = y at *
    generalize cq t ((i : Int) - j) = z at *
    generalize aq i = a at *
    generalize aq j = b at *
    have : 2 * t * (a * b * z) = a * b * (2 * t * z) := by grind
    rw [this, ← h]; grind
  have sw := dg_swap (hq t) k
  rw [dg_mul, dg_add, ← sw] at e1
  grind
/-- (C) -/
theorem diag_C (t : Rat) (k : Nat) : dg (fun i j => 2 * (j : Rat) * hq t i j) (k + 1) = ((k : Rat) + 1) * dg (gq t) k := by
  have e1 : dg (fun i j => 2 * (j : Rat) * hq t i j) (k + 1) = dg (fun i j => (2 * (j : Rat) + 1) * gq t i j) k := by
    rw [dg_right]
    rw [dg_congr (h := fun i j => (2 * (j : Rat) + 1) * gq t i j)]
    · show 2 * ((0 : Nat) : Rat) * hq t (k + 1) 0 + _ = _
      rw [show ((0 : Nat) : Rat) = 0 from rfl]; grind
    · intro i j _
      have h := aq_step j
      unfold gq hq
      rw [show (i : Int) - ((j + 1 : Nat) : Int) + 1 = (i : Int) - j by omega, cast_succ]
      generalize cq t ((i : Int) - j) = c
      generalize aq i = y at *
      have : 2 * ((j : Rat) + 1) * (y * aq (j + 1) * c) = (2 * ((j : Rat) + 1) * aq (j + 1)) * (y * c) := by grind
      rw [this, h]; grind
  have e2 : dg (fun i j => (2 * (j : Rat) + 1) * gq t i j) k = dg (fun i j => (2 * (i : Rat) + 1) * gq t i j) k := by
    rw [dg_swap]
    exact dg_congr (fun i j _ => by rw [gq_swap])
  have e3 : dg (fun i j => (2 * (i : Rat) + 1) * gq t i j + (2 * (j : Rat) + 1) * gq t i j) k = dg (fun i j => 2 * ((k : Rat) + 1) * gq t i j) k := by
    refine dg_congr (fun i j hij => ?_)
    have : (i : Rat) + (j : Rat) = (k : Rat) := by rw [← hij, Rat.natCast_add]
    generalize gq t i j = g
    grind
  rw [dg_add, dg_mul, ← e2, ← e1] at e3
  grind

/-- Bonnet's recurrence for the sum. -/
theorem diag_step (t : Rat) (m : Nat) : ((m : Rat) + 2) * dg (gq t) (m + 2) = (2 * (m : Rat) + 3) * t * dg (gq t) (m + 1) - ((m : Rat) + 1) * dg (gq t) m := by
  have hA := diag_A t (m + 1)
  have hB := diag_B t (m + 1)
  have hC := diag_C t m
  rw [cast_succ] at hA
  have e : dg (fun i j => (2 * (i : Rat) + 1) * hq t i j + 2 * (j : Rat) * hq t i j) (m + 1) = dg (fun i j => (2 * (m : Rat) + 3) * hq t i j) (m + 1) := by
    refine dg_congr (fun i j hij => ?_)
    have : (i : Rat) + (j : Rat) = (m : Rat) + 1 := by rw [← cast_succ, ← hij, Rat.natCast_add]
    generalize hq t i j = g
    grind
  rw [dg_add, dg_mul, ← hA, hC, ← hB] at e
  generalize dg (gq t) (m + 1) = y at *
  generalize dg (gq t) m = z at *
  have e' : ((m : Rat) + 1 + 1) * dg (gq t) (m + 2) + ((m : Rat) + 1) * z = (2 * (m : Rat) + 3) * (t * y) := e
  generalize dg (gq t) (m + 2) = x at *
  grind

/-- The expansion. -/
theorem pq_eq (t : Rat) : ∀ k : Nat, pq t k = dg (gq t) k ∧ pq t (k + 1) = dg (gq t) (k + 1)
  | 0 => by
    refine ⟨?_, ?_⟩
    · show (1 : Rat) = aq 0 * aq 0 * cq t 0
      show (1 : Rat) = 1 * 1 * 1
      grind
    · have h1 : aq 1 = 1 / 2 := by
        show (1 : Rat) * (2 * ((0 : Nat) : Rat) + 1) / (2 * ((0 : Nat) : Rat) + 2) = 1 / 2
        rw [show ((0 : Nat) : Rat) = 0 from rfl]; grind
      show t = aq 0 * aq 1 * cq t (-1) + aq 1 * aq 0 * cq t 1
      rw [cq_neg, h1]
      show t = 1 * (1 / 2) * t + 1 / 2 * 1 * t
      grind
  | k + 1 => by
    obtain ⟨h1, h2⟩ := pq_eq t k
    refine ⟨h2, ?_⟩
    have h3 := pq_step t k
    have h4 := diag_step t k
    rw [h1, h2, ← h4] at h3
    have hk : (0 : Rat) ≤ (k : Rat) := Rat.natCast_nonneg
    have hp : (k : Rat) + 2 ≠ 0 := by grind
    show pq t (k + 2) = dg (gq t) (k + 2)
    generalize pq t (k + 2) = x at *
    generalize dg (gq t) (k + 2) = y at *
    have : ((k : Rat) + 2) * (x - y) = 0 := by grind
    rcases Rat.mul_eq_zero.mp this with h | h
    · exact absurd h hp
    · grind
end Go.Proofs.Qxb6621625a
