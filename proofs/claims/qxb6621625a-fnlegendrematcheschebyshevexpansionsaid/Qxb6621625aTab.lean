/- WHAT THE CHEBYSHEV LAW'S TESTS SEE; what its rows hold; the walk of zzB1Abs. -/
import Derived.Test.Qxb6621625aSum
import Derived.Test.Qxb6621625aLawS
namespace Go.Proofs.Qxb6621625a
open Go.ChangeShapes Go.WideShapes Go.ChangeAt Go.RowKit
attribute [local go_sem] unary_neg_float

/-! ### t in [-1, 1] -/
def inB (t : Nat) : Bool := (Ieee.double.order t mone == some .gt || Ieee.double.order t mone == some .eq)
def inC (t : Nat) : Bool := (Ieee.double.order t one == some .lt || Ieee.double.order t one == some .eq)
theorem between {t : Nat} (h1 : inB t = true) (h2 : inC t = true) : F t ∧ ab (V t) ≤ 1 := by
  have fx : F t := by
    unfold F
    cases hx : rd t with
    | number => rfl
    | nan =>
      exfalso
      unfold inB at h1
      rw [order_nan_left mone (by unfold nanB; rw [hx]; rfl)] at h1
      cases h1
    | infinity a =>
      exfalso
      have e1 := rd_one; have e2 := rd_mone
      unfold rd at hx e1 e2
      unfold inB at h1; unfold inC at h2
      rw [Ieee.Format.order, hx, e2] at h1
      rw [Ieee.Format.order, hx, e1] at h2
      cases a <;> simp [Ieee.Datum.order] at h1 h2
  refine ⟨fx, ab_le.2 ⟨?_, ?_⟩⟩
  · unfold inB at h1
    simp only [Bool.or_eq_true, beq_iff_eq] at h1
    rcases h1 with h | h
    · have := (order_gt fx val_mone.1).1 h
      rw [val_mone.2] at this; grind
    · have := (order_eq fx val_mone.1).1 h
      rw [val_mone.2] at this; grind
  · unfold inC at h2
    simp only [Bool.or_eq_true, beq_iff_eq] at h2
    rcases h2 with h | h
    · have := (order_lt fx val_one.1).1 h
      rw [val_one.2] at this; grind
    · have := (order_eq fx val_one.1).1 h
      rw [val_one.2] at this; grind

/-! ### The absolute value -/
def absW (d : Nat) : Nat := if (Ieee.double.order d 0 == some .lt) = true then Op.negFloat .f64 d else d
theorem val_neg {d : Nat} (hd : d < 18446744073709551616) (f : F d) : F (Op.negFloat .f64 d) ∧ V (Op.negFloat .f64 d) = - V d := by
  obtain ⟨s, m, e, h⟩ := fin_form f
  have h2 := rd_neg d hd
  rw [h] at h2
  have h3 : rd (Op.negFloat .f64 d) = .number (!s) m e := h2
  refine ⟨by unfold F; rw [h3]; rfl, ?_⟩
  unfold V
  rw [h3, h, dv_opp]
theorem sub_lt {x y r : Nat} (h : Ieee.double.sub x y = some r) : r < 18446744073709551616 := by
  have := floatBits_wf (op := .sub) (k := .f64) (x := x) (y := y) (r := r) h
  simpa [Lit.wf] using this
theorem see_last {d c : Nat} (hd : d < 18446744073709551616) (f : F d) (fc : F c) (h : ab (V d) ≤ V c) : (FloatKind.f64.format.order (absW d) c == some .gt) = false := by
  have key : F (absW d) ∧ V (absW d) ≤ V c := by
    have h1 := le_ab (V d); have h2 := neg_le_ab (V d)
    unfold absW
    split
    · obtain ⟨g1, g2⟩ := val_neg hd f
      exact ⟨g1, by rw [g2]; exact Rat.le_trans h2 h⟩
    · exact ⟨f, Rat.le_trans h1 h⟩
  refine beq_eq_false_iff_ne.2 fun hg => ?_
  have := (order_gt key.1 fc).1 hg
  exact absurd this (Rat.not_lt.2 key.2)

theorem abs_any (d : Nat) (w : World) : Calls Try.prog 9 #[.float .f64 d] w fun e w' => e = .returned (.float .f64 (absW d)) ∧ w' = w := by
  unfold absW
  by_cases h : (Ieee.double.order d 0 == some .lt) = true
  · rw [if_pos h]
    have h' : (FloatKind.f64.format.order d 0 == some .lt) = true := h
    clear h
    go_enter Try.func9, Try.ntmps9
    go_wp2
    go_ret
    exact ⟨rfl, rfl⟩
  · rw [if_neg h]
    have h' : (FloatKind.f64.format.order d 0 == some .lt) = false := (Bool.eq_false_iff.2 h : (Ieee.double.order d 0 == some .lt) = false)
    clear h
    go_enter Try.func9, Try.ntmps9
    go_wp2
    go_ret
    exact ⟨rfl, rfl⟩

/-! ### The rows -/
/-- A row of n floats of the call's own, of whose first k something is known. -/
def RowF (base g n k : Nat) (f : Nat → Nat → Prop) (w : World) : Prop :=
  ∃ l : List Nat, l.length = n ∧ w.ownsRow base 22 1 (.slice (some ⟨g, 0, none⟩) n n) n (FL l) ∧ ∀ i, i < k → f i (l.getD i 0)

theorem RowF.cell {base g n k : Nat} {f : Nat → Nat → Prop} {w : World} (h : RowF base g n k f w) (i : Nat) (hi : i < n) : ∃ x, w.cell? ⟨g, i, none⟩ = some (.float .f64 x) ∧ (i < k → f i x) := by
  obtain ⟨l, h1, h2, h3⟩ := h
  refine ⟨l.getD i 0, ?_, h3 i⟩
  rw [h2.cellAt i (by omega)]
  simp [FL, List.getElem?_eq_getElem (show i < l.length by omega), List.getD]
theorem RowF.frozen {base g n k : Nat} {f : Nat → Nat → Prop} {w : World} (h : RowF base g n k f w) (i : Nat) : w.frozen? ⟨g, i, none⟩ = false := by
  obtain ⟨l, h1, h2, h3⟩ := h
  exact h2.frozenAt i
theorem RowF.lt {base g n k : Nat} {f : Nat → Nat → Prop} {w : World} (h : RowF base g n k f w) : base ≤ g ∧ g < w.heap.size := by
  obtain ⟨l, h1, h2, h3⟩ := h
  exact own_lt h2
theorem RowF.drew {base g n k : Nat} {f : Nat → Nat → Prop} {w : World} (h : RowF base g n k f w) : RowF base g n k f w.drew := h
theorem RowF.next {base g n k : Nat} {f : Nat → Nat → Prop} {w : World} (h : RowF base g n k f w) (hk : k < n) {x : Nat} (hx : f k x) : RowF base g n (k + 1) f (w.setCell ⟨g, k, none⟩ (.float .f64 x)) := by
  obtain ⟨l, h1, h2, h3⟩ := h
  have hs := h2.stored k (.float .f64 x)
  refine ⟨l.set k x, by simpa using h1, ?_, fun i hi => ?_⟩
  · have e : FL (l.set k x) = (FL l).set k (.float .f64 x) := by simp [FL, List.map_set]
    rw [e]; exact hs.1
  · by_cases hik : i = k
    · subst hik
      simp [List.getD, show i < l.length by omega, hx]
    · have := h3 i (by omega)
      simpa [List.getD, show ¬ k = i from fun h => hik h.symm] using this
theorem RowF.other {base g n k : Nat} {f : Nat → Nat → Prop} {w : World} (h : RowF base g n k f w) {b2 g2 n2 k2 : Nat} {f2 : Nat → Nat → Prop} (h' : RowF b2 g2 n2 k2 f2 w) (hne : g ≠ g2) (j : Nat) (v : Value) : RowF base g n k f (w.setCell ⟨g2, j, none⟩ v) := by
  obtain ⟨l, h1, h2, h3⟩ := h
  obtain ⟨l', _, h2', _⟩ := h'
  exact ⟨l, h1, own_other h2 (h2'.stored j v).2 hne, h3⟩
theorem RowF.grown {base g n k : Nat} {f : Nat → Nat → Prop} {w w' : World} (h : RowF base g n k f w) (hg : w.grownBy w' none) : RowF base g n k f w' := by
  obtain ⟨l, h1, h2, h3⟩ := h
  exact ⟨l, h1, h2.kept hg (.inr (by simp [Value.ownBlock])), h3⟩

def isT (t i x : Nat) : Prop := tcF t i = some x
def isA (i x : Nat) : Prop := acF i = some x
def isL (t i x : Nat) : Prop := cn x = leg (cn t) i

/-- The three rows, after k rounds of the second loop. -/
structure Tab (w0 : World) (gf gt ga n t k : Nat) (w : World) : Prop where
  fr : RowF w0.heap.size gf n n (isL t) w
  tc : RowF w0.heap.size gt n k (isT t) w
  ac : RowF w0.heap.size ga n k isA w
  bel : Below w0.heap.size w0 w
  ne1 : gf ≠ gt
  ne2 : gf ≠ ga
  ne3 : gt ≠ ga

theorem Tab.drew {w0 : World} {gf gt ga n t k : Nat} {w : World} (h : Tab w0 gf gt ga n t k w) : Tab w0 gf gt ga n t k w.drew := ⟨h.fr, h.tc, h.ac, h.bel.drew, h.ne1, h.ne2, h.ne3⟩
theorem Tab.drewN {w0 : World} {gf gt ga n t k : Nat} {w : World} (h : Tab w0 gf gt ga n t k w) (m : Nat) : Tab w0 gf gt ga n t k (w.drewN m) := ⟨h.fr, h.tc, h.ac, below_drewN h.bel m, h.ne1, h.ne2, h.ne3⟩
/-- Both stores of a round. -/
theorem Tab.next {w0 : World} {gf gt ga n t k : Nat} {w : World} (h : Tab w0 gf gt ga n t k w) (hk : k < n) {x y : Nat} (hx : isT t k x) (hy : isA k y) :
    Tab w0 gf gt ga n t (k + 1) ((w.setCell ⟨gt, k, none⟩ (.float .f64 x)).setCell ⟨ga, k, none⟩ (.float .f64 y)) := by
  have t1 := h.tc.next hk hx
  have a1 := h.ac.other h.tc h.ne3.symm k (.float .f64 x)
  have f1 := h.fr.other h.tc h.ne1 k (.float .f64 x)
  have t2 := t1.other a1 h.ne3 k (.float .f64 y)
  have a2 := a1.next hk hy
  have f2 := f1.other a1 h.ne2 k (.float .f64 y)
  exact ⟨f2, t2, a2, (h.bel.setCell (p := ⟨gt, k, none⟩) h.tc.lt.1 _).setCell (p := ⟨ga, k, none⟩) h.ac.lt.1 _, h.ne1, h.ne2, h.ne3⟩
/-- After the first store. -/
theorem Tab.mid {w0 : World} {gf gt ga n t k : Nat} {w : World} (h : Tab w0 gf gt ga n t k w) (v : Value) (i : Nat) (hi : i < k) (hk : k < n) :
    ∃ x, isA i x ∧ w.cell? ⟨ga, i, none⟩ = some (.float .f64 x) ∧ (w.setCell ⟨gt, k, none⟩ v).cell? ⟨ga, i, none⟩ = some (.float .f64 x) := by
  obtain ⟨x, h1, h2⟩ := h.ac.cell i (by omega)
  obtain ⟨y, h3, h4⟩ := (h.ac.other h.tc h.ne3.symm k v).cell i (by omega)
  refine ⟨x, h2 hi, h1, ?_⟩
  have e1 : some x = some y := (h2 hi).symm.trans (h4 hi)
  rw [h3, Option.some.inj e1]
theorem Tab.frz {w0 : World} {gf gt ga n t k : Nat} {w : World} (h : Tab w0 gf gt ga n t k w) (v : Value) (i j : Nat) :
    (w.setCell ⟨gt, j, none⟩ v).frozen? ⟨ga, i, none⟩ = false := (h.ac.other h.tc h.ne3.symm j v).frozen i

theorem flI (k : Nat) : floatOfInt .f64 (k : Int) = flN k := by
  show Ieee.double.write (.number (decide (((k : Nat) : Int) < 0)) ((k : Nat) : Int).natAbs 0) = _
  rw [show decide (((k : Nat) : Int) < 0) = false from decide_eq_false (by omega), Int.natAbs_natCast]; rfl

theorem flI2 (k : Nat) : floatOfInt .f64 (2 * (k : Int)) = flN (2 * k) := by
  rw [← flI]; congr 1
theorem flI21 (k : Nat) (h : 1 ≤ k) : floatOfInt .f64 (2 * (k : Int) - 1) = flN (2 * k - 1) := by
  rw [← flI]; congr 1; omega
theorem flI1 (k : Nat) : floatOfInt .f64 ((k : Int) + 1) = flN (k + 1) := by
  rw [← flI]; congr 1

/-! ### The words of a round -/
theorem opF_inv_r {op : Nat → Nat → Option Nat} {a : Option Nat} {y r : Nat} (h : opF op a (some y) = some r) : ∃ x, a = some x ∧ op x y = some r := by
  cases a with
  | none => cases h
  | some x => exact ⟨x, rfl, h⟩
theorem words_T {t k x1 x0 : Nat} (ft : F t ∧ ab (V t) ≤ 1) (hk : 2 ≤ k) (hk2 : k ≤ 4096) (h1 : isT t (k - 1) x1) (h0 : isT t (k - 2) x0) :
    ∃ r1 r2 r, Ieee.double.mul two t = some r1 ∧ Ieee.double.mul r1 x1 = some r2 ∧ Ieee.double.sub r2 x0 = some r ∧ isT t k r := by
  obtain ⟨j, rfl⟩ : ∃ j, k = j + 2 := ⟨k - 2, by omega⟩
  obtain ⟨r, hr, _⟩ := tc_ok ft.1 ft.2 (j + 2) hk2
  have hr' := hr
  unfold isT at h1 h0
  rw [show j + 2 - 1 = j + 1 by omega] at h1
  rw [show j + 2 - 2 = j by omega] at h0
  rw [show tcF t (j + 2) = opF Ieee.double.sub (opF Ieee.double.mul (opF Ieee.double.mul (some two) (some t)) (tcF t (j + 1))) (tcF t j) from rfl, h1, h0] at hr
  obtain ⟨r2, e2, g3⟩ := opF_inv_r hr
  obtain ⟨r1, e1, g2⟩ := opF_inv_r e2
  exact ⟨r1, r2, r, e1, g2, g3, hr'⟩
theorem words_A {k y : Nat} (hk : 1 ≤ k) (hk2 : k ≤ 4096) (h : isA (k - 1) y) : ∃ r1 r, Ieee.double.mul y (flN (2 * k - 1)) = some r1 ∧ Ieee.double.div r1 (flN (2 * k)) = some r ∧ isA k r := by
  obtain ⟨j, rfl⟩ : ∃ j, k = j + 1 := ⟨k - 1, by omega⟩
  obtain ⟨r, hr, _⟩ := ac_ok (j + 1) hk2
  have hr' := hr
  unfold isA at h
  rw [show j + 1 - 1 = j by omega] at h
  rw [show acF (j + 1) = opF Ieee.double.div (opF Ieee.double.mul (acF j) (some (flN (2 * j + 1)))) (some (flN (2 * j + 2))) from rfl, h] at hr
  obtain ⟨r1, e1, g2⟩ := opF_inv_r hr
  rw [show 2 * (j + 1) - 1 = 2 * j + 1 by omega, show 2 * (j + 1) = 2 * j + 2 by omega]
  exact ⟨r1, r, e1, g2, hr'⟩

theorem opF_inv_l {op : Nat → Nat → Option Nat} {b : Option Nat} {x r : Nat} (h : opF op (some x) b = some r) : ∃ y, b = some y ∧ op x y = some r := by
  cases b with
  | none => cases h
  | some y => exact ⟨y, rfl, h⟩
theorem words_M {t k j s a1 a2 z : Nat} (ft : F t ∧ ab (V t) ≤ 1) (hk : k ≤ 4095) (hj : j ≤ k) (hs : mdF t k j = some s) (h1 : isA j a1) (h2 : isA (k - j) a2) (h3 : isT t (dd k j) z) :
    ∃ r1 r2 s', Ieee.double.mul a1 a2 = some r1 ∧ Ieee.double.mul r1 z = some r2 ∧ Ieee.double.add s r2 = some s' ∧ mdF t k (j + 1) = some s' := by
  obtain ⟨s', hr, _⟩ := md_ok ft.1 ft.2 hk (j + 1) (by omega)
  have hr' := hr
  unfold isA at h1 h2
  unfold isT at h3
  rw [show mdF t k (j + 1) = opF Ieee.double.add (mdF t k j) (opF Ieee.double.mul (opF Ieee.double.mul (acF j) (acF (k - j))) (tcF t (dd k j))) from rfl, hs, h1, h2, h3] at hr
  obtain ⟨r2, e2, g3⟩ := opF_inv_l hr
  obtain ⟨r1, e1, g2⟩ := opF_inv_r e2
  exact ⟨r1, r2, s', e1, g2, g3, hr'⟩
theorem words_L {t k e s : Nat} (ft : F t ∧ ab (V t) ≤ 1) (hk : k ≤ 4095) (he : isL t k e) (hs : mdF t k (k + 1) = some s) :
    ∃ d a b c, Ieee.double.sub e s = some d ∧ Ieee.double.mul (flN (k + 1)) (flN (k + 1)) = some a ∧ Ieee.double.mul a (flN (k + 1)) = some b ∧ Ieee.double.mul b 4409024035195715584 = some c ∧
      (FloatKind.f64.format.order (absW d) c == some .gt) = false := by
  unfold isL at he
  rw [cn_F ft.1] at he
  obtain ⟨x, hx, fx, _⟩ := leg_ok ft.1 ft.2 k hk
  rw [hx] at he
  obtain ⟨rfl, _⟩ := cn_some he
  obtain ⟨d, g, fd, wd⟩ := last_ok ft.1 ft.2 hk hx hs
  obtain ⟨a, b, c, g1, g2, g3, fc, vc⟩ := kk_ok k hk
  exact ⟨d, a, b, c, g, g1, g2, g3, see_last (sub_lt g) fd fc (by rw [vc]; exact wd)⟩

/-- A row that the first store of a round leaves as it was. -/
theorem Tab.mid_cell {w0 : World} {gf gt ga n t k : Nat} {w : World} (h : Tab w0 gf gt ga n t k w) (j i : Nat) (v : Value) : (w.setCell ⟨gt, j, none⟩ v).cell? ⟨ga, i, none⟩ = w.cell? ⟨ga, i, none⟩ := by
  obtain ⟨l, _, h2, _⟩ := h.tc
  exact World.cell?_of_block ((h2.stored j v).2.block ga h.ac.lt.2 (fun e => h.ne3 (Option.some.inj e).symm))
end Go.Proofs.Qxb6621625a
