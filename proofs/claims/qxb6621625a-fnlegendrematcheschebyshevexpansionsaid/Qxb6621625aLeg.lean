/- THE WALK OF legendre. -/
import Derived.Test.Qxb6621625aSmall
import Derived.BigRegion
namespace Go.Proofs.Qxb6621625a
open Go.ChangeShapes Go.WideShapes Go.ChangeAt Go.RowKit

/-- The store of a float: the guide's set has it for integers, bools, pointers, slices, strings. -/
theorem run_store_float {P : Program} {w : World} {a : Addr} {m : Mode} (k : FloatKind) (b : Nat) : (store a (.float k b) m).run P w = stored P w a (.float k b) m := run_store P w a _ m rfl
attribute [local go_sem] run_store_float

/-- What is known of the row after k rounds. -/
structure Legs (w0 : World) (base g n cap : Nat) (t : Nat) (k : Nat) (wr : World) : Prop where
  row : ∃ l : List Nat, l.length = n ∧ wr.ownsRow base 22 1 (.slice (some ⟨g, 0, none⟩) n cap) n (FL l) ∧ ∀ i, i < k → cn (l.getD i 0) = leg (cn t) i
  grown : w0.grownBy wr (some g)

theorem Legs.cell {w0 : World} {base g n cap t k : Nat} {wr : World} (h : Legs w0 base g n cap t k wr) (i : Nat) (hi : i < n) : ∃ x, wr.cell? ⟨g, i, none⟩ = some (.float .f64 x) ∧ (i < k → cn x = leg (cn t) i) := by
  obtain ⟨l, h1, h2, h3⟩ := h.row
  refine ⟨l.getD i 0, ?_, h3 i⟩
  rw [h2.cellAt i (by omega)]
  simp [FL, List.getElem?_eq_getElem (show i < l.length by omega), List.getD]

theorem Legs.frozen {w0 : World} {base g n cap t k : Nat} {wr : World} (h : Legs w0 base g n cap t k wr) (i : Nat) : wr.frozen? ⟨g, i, none⟩ = false := by
  obtain ⟨l, h1, h2, h3⟩ := h.row
  exact h2.frozenAt i

theorem Legs.drewN {w0 : World} {base g n cap t k : Nat} {wr : World} (h : Legs w0 base g n cap t k wr) (m : Nat) : Legs w0 base g n cap t k (wr.drewN m) :=
  ⟨h.row, ⟨h.grown.os, h.grown.tape, h.grown.output, h.grown.size, h.grown.block⟩⟩

/-- A round's store. -/
theorem Legs.next {w0 : World} {base g n cap t k : Nat} {wr : World} (h : Legs w0 base g n cap t k wr) (hk : k < n) {x : Nat} (hx : cn x = leg (cn t) k) : Legs w0 base g n cap t (k + 1) (wr.setCell ⟨g, k, none⟩ (.float .f64 x)) := by
  obtain ⟨l, h1, h2, h3⟩ := h.row
  have hs := h2.stored k (.float .f64 x)
  refine ⟨⟨l.set k x, by simpa using h1, ?_, fun i hi => ?_⟩, ⟨rfl.trans h.grown.os, rfl.trans h.grown.tape, rfl.trans h.grown.output, Nat.le_trans h.grown.size hs.2.size, fun q hq hne => (hs.2.block q (Nat.lt_of_lt_of_le hq h.grown.size) hne).trans (h.grown.block q hq hne)⟩⟩
  · have e : FL (l.set k x) = (FL l).set k (.float .f64 x) := by simp [FL, List.map_set]
    rw [e]; exact hs.1
  · by_cases hik : i = k
    · subst hik
      simp [List.getD, show i < l.length by omega, hx]
    · have := h3 i (by omega)
      rw [← this]
      simp [List.getD, show ¬ k = i from fun h => hik h.symm]

theorem cn_one : cn one = some one := cn_F val_one.1
theorem leg_0 (t : Option Nat) : leg t 0 = some one := rfl
theorem leg_1 (t : Option Nat) : leg t 1 = t := rfl

/-! ### One step: its words -/
theorem notNaN_write {o : Option Ieee.Datum} {r : Nat} (h : o.map Ieee.double.write = some r) (hd : ∀ d, o = some d → d.isNaN = false) : nanB r = false := by
  cases o with
  | none => cases h
  | some d =>
    obtain rfl := Option.some.inj h
    exact (write_rel Ieee.double (dRel_refl d) (hd d rfl)).2
theorem sum_notNaN {a b d : Ieee.Datum} (h : a.sum b = some d) : d.isNaN = false := by
  cases a <;> cases b <;> simp only [Ieee.Datum.sum] at h <;> first | (cases h; rfl) | (split at h <;> cases h; rfl) | cases h
theorem product_notNaN {a b d : Ieee.Datum} (h : a.product b = some d) : d.isNaN = false := by
  cases a <;> cases b <;> simp only [Ieee.Datum.product] at h <;> first | (cases h; rfl) | (split at h <;> cases h; rfl) | cases h
theorem quotient_notNaN {n : Nat} {a b d : Ieee.Datum} (h : a.quotient n b = some d) : d.isNaN = false := by
  cases a <;> cases b <;> simp only [Ieee.Datum.quotient] at h <;> first | (cases h; rfl) | (split at h <;> first | (split at h <;> cases h; rfl) | (cases h; rfl)) | cases h
theorem sub_notNaN {x y r : Nat} (h : Ieee.double.sub x y = some r) : nanB r = false := notNaN_write h fun _ hd => sum_notNaN hd
theorem div_notNaN {x y r : Nat} (h : Ieee.double.div x y = some r) : nanB r = false := notNaN_write h fun _ hd => quotient_notNaN hd
theorem div_some {x y : Nat} (hx : nanB x = false) (hy : F y) (h0 : V y ≠ 0) : ∃ r, Ieee.double.div x y = some r := by
  obtain ⟨t, n, j, h2⟩ := fin_form hy
  have hn : n ≠ 0 := fun h => h0 (by unfold V; rw [h2]; subst h; rw [dv_neg, show ((0 : Nat) : Rat) = 0 from rfl]; split <;> grind)
  unfold nanB at hx
  cases hr : rd x with
  | nan => rw [hr] at hx; cases hx
  | number a m e =>
    unfold rd at hr h2
    rw [Ieee.Format.div, hr, h2]
    simp only [Ieee.Datum.quotient]
    rw [if_neg hn]
    exact ⟨_, rfl⟩
  | infinity a =>
    unfold rd at hr h2
    rw [Ieee.Format.div, hr, h2]
    exact ⟨_, rfl⟩

theorem coef_words (n : Nat) (h : n ≤ 4096) : ∃ c a b, Ieee.double.mul two (flN n) = some c ∧ Ieee.double.add c one = some a ∧ Ieee.double.add (flN n) one = some b ∧ twoN1 n = some a ∧ nP1 n = some b ∧ F b ∧ V b ≠ 0 := by
  obtain ⟨a, ea, _, _⟩ := twoN1_spec n (by omega)
  obtain ⟨b, eb, fb, vb⟩ := nP1_spec n (by omega)
  have e1 : Ieee.double.add (flN n) one = some b := eb
  cases hc : Ieee.double.mul two (flN n) with
  | none =>
    have : twoN1 n = none := by unfold twoN1; rw [show opF Ieee.double.mul (some two) (some (flN n)) = none from hc]; rfl
    rw [this] at ea; cases ea
  | some c =>
    have : twoN1 n = Ieee.double.add c one := by unfold twoN1; rw [show opF Ieee.double.mul (some two) (some (flN n)) = some c from hc]; rfl
    exact ⟨c, a, b, rfl, this ▸ ea, e1, ea, eb, fb, by rw [vb]; exact ne0 Rat.natCast_nonneg⟩

theorem opF_none_l (op : Nat → Nat → Option Nat) (b : Option Nat) : opF op none b = none := by cases b <;> rfl
theorem opF_none_r (op : Nat → Nat → Option Nat) (a : Option Nat) : opF op a none = none := by cases a <;> rfl
theorem opF_some (op : Nat → Nat → Option Nat) (x y : Nat) : opF op (some x) (some y) = op x y := rfl
/-- An operation that gives NaN for NaN, on words. -/
theorem opF_cn {op : Nat → Nat → Option Nat} (hl : ∀ x y, nanB x = true → op x y = none) (hr : ∀ x y, nanB y = true → op x y = none) (x y : Nat) : opF op (cn x) (cn y) = op x y := by
  unfold cn
  by_cases h1 : nanB x = true
  · rw [if_pos h1, opF_none_l, hl x y h1]
  · rw [if_neg h1]
    by_cases h2 : nanB y = true
    · rw [if_pos h2, opF_none_r, hr x y h2]
    · rw [if_neg h2]; rfl
theorem mul_cn (x y : Nat) : opF Ieee.double.mul (cn x) (cn y) = Ieee.double.mul x y := opF_cn (fun _ y h => mul_nan_l y h) (fun x _ h => mul_nan_r x h) x y

/-- The step, written out over the operations' own answers. -/
theorem step_cn {n a b : Nat} (ea : twoN1 n = some a) (eb : nP1 n = some b) (fa : nanB a = false) (fn : nanB (flN n) = false) (t A B : Nat) :
    stepL (cn t) n (cn A) (cn B) = opF Ieee.double.div (opF Ieee.double.sub (opF Ieee.double.mul (Ieee.double.mul a t) (cn A)) (Ieee.double.mul (flN n) B)) (some b) := by
  unfold stepL
  rw [ea, eb, ← mul_cn a t, cn_of fa, ← mul_cn (flN n) B, cn_of fn]

theorem mul_notNaN {x y r : Nat} (h : Ieee.double.mul x y = some r) : nanB r = false := notNaN_write h fun _ hd => product_notNaN hd
theorem leg_k (t : Option Nat) (k : Nat) (h : 2 ≤ k) : leg t k = stepL t (k - 1) (leg t (k - 1)) (leg t (k - 2)) := by
  obtain ⟨j, rfl⟩ : ∃ j, k = j + 1 + 1 := ⟨k - 2, by omega⟩
  rw [leg_two, show j + 1 + 1 - 1 = j + 1 by omega, show j + 1 + 1 - 2 = j by omega]

/-- All operations have an answer. -/
theorem step_valid {n a b t A B r21 r27 r34 r35 r38 : Nat} (hn : n ≤ 4096) (ea : twoN1 n = some a) (eb : nP1 n = some b) (v1 : Ieee.double.mul a t = some r21) (v2 : Ieee.double.mul r21 A = some r27)
    (v3 : Ieee.double.mul (flN n) B = some r34) (v4 : Ieee.double.sub r27 r34 = some r35) (v5 : Ieee.double.div r35 b = some r38) : cn r38 = stepL (cn t) n (cn A) (cn B) := by
  obtain ⟨a', ea', fa', _⟩ := twoN1_spec n (by omega)
  rw [ea] at ea'
  obtain rfl := Option.some.inj ea'
  rw [step_cn ea eb (nanB_of_F fa') (nanB_of_F (flN_spec n (by omega)).1), v1, v3]
  have e1 : opF Ieee.double.mul (some r21) (cn A) = some r27 := by
    rw [← cn_of (mul_notNaN v1), mul_cn, v2]
  rw [e1, opF_some, v4, opF_some, v5, cn_of (div_notNaN v5)]
/-- One has none. -/
theorem step_invalid {n a b t A B : Nat} (hn : n ≤ 4096) (ea : twoN1 n = some a) (eb : nP1 n = some b)
    (h : ¬ ∃ r21 r27 r34 r35, Ieee.double.mul a t = some r21 ∧ Ieee.double.mul r21 A = some r27 ∧ Ieee.double.mul (flN n) B = some r34 ∧ Ieee.double.sub r27 r34 = some r35) : stepL (cn t) n (cn A) (cn B) = none := by
  obtain ⟨a', ea', fa', _⟩ := twoN1_spec n (by omega)
  rw [ea] at ea'
  obtain rfl := Option.some.inj ea'
  rw [step_cn ea eb (nanB_of_F fa') (nanB_of_F (flN_spec n (by omega)).1)]
  cases v1 : Ieee.double.mul a t with
  | none => rw [opF_none_l, opF_none_l, opF_none_l]
  | some r21 =>
    have e1 : opF Ieee.double.mul (some r21) (cn A) = Ieee.double.mul r21 A := by rw [← cn_of (mul_notNaN v1), mul_cn]
    rw [e1]
    cases v2 : Ieee.double.mul r21 A with
    | none => rw [opF_none_l, opF_none_l]
    | some r27 =>
      cases v3 : Ieee.double.mul (flN n) B with
      | none => rw [opF_none_r, opF_none_l]
      | some r34 =>
        rw [opF_some]
        cases v4 : Ieee.double.sub r27 r34 with
        | none => rw [opF_none_l]
        | some r35 => exact absurd ⟨r21, r27, r34, r35, v1, v2, v3, v4⟩ h

theorem Legs.drew {w0 : World} {base g n cap t k : Nat} {wr : World} (h : Legs w0 base g n cap t k wr) : Legs w0 base g n cap t k wr.drew :=
  ⟨h.row, ⟨h.grown.os, h.grown.tape, h.grown.output, h.grown.size, h.grown.block⟩⟩

set_option maxHeartbeats 4000000 in
theorem leg_any (base g n cap t : Nat) (l : List Nat) (w : World) (hl : l.length = n) (hn : n ≤ 4096) (hown : w.ownsRow base 22 1 (.slice (some ⟨g, 0, none⟩) n cap) n (FL l)) :
    Calls Try.prog 11 #[.float .f64 t, .slice (some ⟨g, 0, none⟩) n cap] w fun e w' => e = .returned (.tuple #[]) ∧ Legs w base g n cap t n w' := by
  have L0 : Legs w base g n cap t 0 w := ⟨⟨l, hl, hown, fun i hi => absurd hi (Nat.not_lt_zero _)⟩, World.grownBy.refl _ _⟩
  clear hown hl
  go_enter Try.func11, Try.ntmps11
  go_wp2
  go_loopw [8] (fun i wr => ∃ k : Nat, k ≤ n ∧ i = .int .i64 k ∧ Legs w base g n cap t k wr) (fun i _ => n - (intOf i).toNat)
  case atStart => exact ⟨0, Nat.zero_le _, rfl, L0⟩
  case round =>
    obtain ⟨k, hk, rfl, hL⟩ := hrel
    clear L0
    by_cases hlt : k < n
    · obtain ⟨xk, hck, _⟩ := hL.cell k hlt
      have hfk := hL.frozen k
      by_cases h0 : k = 0
      · subst h0
        have N1 := hL.next hlt (x := 4607182418800017408) (cn_one.trans (leg_0 _).symm)
        have HN := hide N1
        clear N1
        go_wp2
        go_roundw
        case rel => exact ⟨1, by omega, by go_num, HN.out⟩
        case measure => simp [intOf]; omega
      · by_cases h1 : k = 1
        · subst h1
          have N1 := hL.next hlt (x := t) (leg_1 _).symm
          have HN := hide N1
          clear N1
          go_wp2
          go_roundw
          case rel => exact ⟨2, by omega, by go_num, HN.out⟩
          case measure => simp [intOf]; omega
        · have h2 : 2 ≤ k := by omega
          have e0 : ((k : Int) == 0) = false := by simpa using h0
          have e1 : ((k : Int) == 1) = false := by simp; omega
          obtain ⟨A, hA, hcA⟩ := hL.cell (k - 1) (by omega)
          obtain ⟨B, hB, hcB⟩ := hL.cell (k - 2) (by omega)
          have hcA := hcA (by omega)
          have hcB := hcB (by omega)
          obtain ⟨c, a, b, m1, m2, m3, ea, eb, fb, vb⟩ := coef_words (k - 1) (by omega)
          have hN : floatOfInt .f64 ((k : Int) - 1) = flN (k - 1) := by
            rw [show (k : Int) - 1 = ((k - 1 : Nat) : Int) by omega]
            show Ieee.double.write (.number (decide (((k - 1 : Nat) : Int) < 0)) ((k - 1 : Nat) : Int).natAbs 0) = _
            rw [show decide (((k - 1 : Nat) : Int) < 0) = false from decide_eq_false (by omega), Int.natAbs_natCast]; rfl
          obtain ⟨N, hN'⟩ : ∃ N, flN (k - 1) = N := ⟨_, rfl⟩
          rw [hN'] at hN m1 m3
          have R18 : ∀ w, (binOp .mul 22 (.float .f64 4611686018427387904) (.float .f64 N)).run Try.prog w = .ok (.float .f64 c) w := fun w => run_float_arith w .mul 22 .f64 _ _ _ m1
          have R19 : ∀ w, (binOp .add 22 (.float .f64 c) (.float .f64 4607182418800017408)).run Try.prog w = .ok (.float .f64 a) w := fun w => run_float_arith w .add 22 .f64 _ _ _ m2
          have R37 : ∀ w, (binOp .add 22 (.float .f64 N) (.float .f64 4607182418800017408)).run Try.prog w = .ok (.float .f64 b) w := fun w => run_float_arith w .add 22 .f64 _ _ _ m3
          by_cases hvalid : ∃ r21 r27 r34 r35, Ieee.double.mul a t = some r21 ∧ Ieee.double.mul r21 A = some r27 ∧ Ieee.double.mul N B = some r34 ∧ Ieee.double.sub r27 r34 = some r35
          · obtain ⟨r21, r27, r34, r35, v1, v2, v3, v4⟩ := hvalid
            obtain ⟨r38, v5⟩ := div_some (sub_notNaN v4) fb vb
            have R21 : ∀ w, (binOp .mul 22 (.float .f64 a) (.float .f64 t)).run Try.prog w = .ok (.float .f64 r21) w := fun w => run_float_arith w .mul 22 .f64 _ _ _ v1
            have R27 : ∀ w, (binOp .mul 22 (.float .f64 r21) (.float .f64 A)).run Try.prog w = .ok (.float .f64 r27) w := fun w => run_float_arith w .mul 22 .f64 _ _ _ v2
            have R34 : ∀ w, (binOp .mul 22 (.float .f64 N) (.float .f64 B)).run Try.prog w = .ok (.float .f64 r34) w := fun w => run_float_arith w .mul 22 .f64 _ _ _ v3
            have R35 : ∀ w, (binOp .sub 22 (.float .f64 r27) (.float .f64 r34)).run Try.prog w = .ok (.float .f64 r35) w := fun w => run_float_arith w .sub 22 .f64 _ _ _ v4
            have R38 : ∀ w, (binOp .quo 22 (.float .f64 r35) (.float .f64 b)).run Try.prog w = .ok (.float .f64 r38) w := fun w => run_float_arith w .quo 22 .f64 _ _ _ v5
            have i1 : (k : Int) - 1 < (n : Int) := by omega
            have i2 : (k : Int) - 2 < (n : Int) := by omega
            have i3 : (k : Int) < (n : Int) := by omega
            have i4 : 0 ≤ (k : Int) - 2 := by omega
            have i5 : 0 ≤ (k : Int) - 1 := by omega
            have HL := hide hL
            have HX : Hid (cn r38 = leg (cn t) k) := by
              show cn r38 = _
              rw [leg_k _ _ h2, ← hcA, ← hcB]
              exact step_valid (by omega) ea eb v1 v2 (hN' ▸ v3) v4 v5
            clear hL ea eb hN' v1 v2 v3 v4 v5 hcA hcB m1 m2 m3 fb vb
            go_wp2
            go_region
            all_goals
              go_wp2
              go_roundw
              case rel => exact ⟨k + 1, by omega, by go_num, by (repeat apply Legs.drew); exact HL.out.next hlt HX.out⟩
              case measure => simp [intOf]; omega
          · have i1 : (k : Int) - 1 < (n : Int) := by omega
            have i2 : (k : Int) - 2 < (n : Int) := by omega
            have i3 : (k : Int) < (n : Int) := by omega
            have i4 : 0 ≤ (k : Int) - 2 := by omega
            have i5 : 0 ≤ (k : Int) - 1 := by omega
            have U1 : ∀ w x y z w', (binOp .mul 22 (.float .f64 (nanW w x y)) (.float .f64 z)).run Try.prog w' = .ok (.float .f64 (nanW w' (nanW w x y) z)) w'.drew := fun w x y z w' => run_float_nan w' .mul 22 _ _ (by simp) (mul_nan_l z (nanB_nanW w x y))
            have U2 : ∀ w x y z w', (binOp .sub 22 (.float .f64 (nanW w x y)) (.float .f64 z)).run Try.prog w' = .ok (.float .f64 (nanW w' (nanW w x y) z)) w'.drew := fun w x y z w' => run_float_nan w' .sub 22 _ _ (by simp) (sub_nan_l z (nanB_nanW w x y))
            have U3 : ∀ w x y z w', (binOp .sub 22 (.float .f64 z) (.float .f64 (nanW w x y))).run Try.prog w' = .ok (.float .f64 (nanW w' z (nanW w x y))) w'.drew := fun w x y z w' => run_float_nan w' .sub 22 _ _ (by simp) (sub_nan_r z (nanB_nanW w x y))
            have U4 : ∀ w x y z w', (binOp .quo 22 (.float .f64 (nanW w x y)) (.float .f64 z)).run Try.prog w' = .ok (.float .f64 (nanW w' (nanW w x y) z)) w'.drew := fun w x y z w' => run_float_nan w' .quo 22 _ _ (by simp) (div_nan_l z (nanB_nanW w x y))
            have HX : Hid (∀ x, nanB x = true → cn x = leg (cn t) k) := fun x hx => by
              rw [leg_k _ _ h2, ← hcA, ← hcB, step_invalid (by omega) ea eb (hN' ▸ hvalid)]
              unfold cn; rw [if_pos hx]
            have HL := hide hL
            cases v1 : Ieee.double.mul a t with
            | none =>
              have R21 : ∀ w, (binOp .mul 22 (.float .f64 a) (.float .f64 t)).run Try.prog w = .ok (.float .f64 (nanW w a t)) w.drew := fun w => run_float_nan w .mul 22 _ _ (by simp) v1
              cases v3 : Ieee.double.mul N B with
              | none =>
                have R34 : ∀ w, (binOp .mul 22 (.float .f64 N) (.float .f64 B)).run Try.prog w = .ok (.float .f64 (nanW w N B)) w.drew := fun w => run_float_nan w .mul 22 _ _ (by simp) v3
                clear hL ea eb hN' hvalid hcA hcB m1 m2 m3 fb vb v1 v3
                go_wp2
                go_region
                all_goals
                  go_wp2
                  go_roundw
                  case rel => exact ⟨k + 1, by omega, by go_num, by (repeat apply Legs.drew); exact HL.out.next hlt (HX.out _ (nanB_nanW _ _ _))⟩
                  case measure => simp [intOf]; omega
              | some r34 =>
                have R34 : ∀ w, (binOp .mul 22 (.float .f64 N) (.float .f64 B)).run Try.prog w = .ok (.float .f64 r34) w := fun w => run_float_arith w .mul 22 .f64 _ _ _ v3
                clear hL ea eb hN' hvalid hcA hcB m1 m2 m3 fb vb v1 v3
                go_wp2
                go_region
                all_goals
                  go_wp2
                  go_roundw
                  case rel => exact ⟨k + 1, by omega, by go_num, by (repeat apply Legs.drew); exact HL.out.next hlt (HX.out _ (nanB_nanW _ _ _))⟩
                  case measure => simp [intOf]; omega
            | some r21 =>
              have R21 : ∀ w, (binOp .mul 22 (.float .f64 a) (.float .f64 t)).run Try.prog w = .ok (.float .f64 r21) w := fun w => run_float_arith w .mul 22 .f64 _ _ _ v1
              cases v2 : Ieee.double.mul r21 A with
              | none =>
                have R27 : ∀ w, (binOp .mul 22 (.float .f64 r21) (.float .f64 A)).run Try.prog w = .ok (.float .f64 (nanW w r21 A)) w.drew := fun w => run_float_nan w .mul 22 _ _ (by simp) v2
                cases v3 : Ieee.double.mul N B with
                | none =>
                  have R34 : ∀ w, (binOp .mul 22 (.float .f64 N) (.float .f64 B)).run Try.prog w = .ok (.float .f64 (nanW w N B)) w.drew := fun w => run_float_nan w .mul 22 _ _ (by simp) v3
                  clear hL ea eb hN' hvalid hcA hcB m1 m2 m3 fb vb v1 v2 v3
                  go_wp2
                  go_region
                  all_goals
                    go_wp2
                    go_roundw
                    case rel => exact ⟨k + 1, by omega, by go_num, by (repeat apply Legs.drew); exact HL.out.next hlt (HX.out _ (nanB_nanW _ _ _))⟩
                    case measure => simp [intOf]; omega
                | some r34 =>
                  have R34 : ∀ w, (binOp .mul 22 (.float .f64 N) (.float .f64 B)).run Try.prog w = .ok (.float .f64 r34) w := fun w => run_float_arith w .mul 22 .f64 _ _ _ v3
                  clear hL ea eb hN' hvalid hcA hcB m1 m2 m3 fb vb v1 v2 v3
                  go_wp2
                  go_region
                  all_goals
                    go_wp2
                    go_roundw
                    case rel => exact ⟨k + 1, by omega, by go_num, by (repeat apply Legs.drew); exact HL.out.next hlt (HX.out _ (nanB_nanW _ _ _))⟩
                    case measure => simp [intOf]; omega
              | some r27 =>
                have R27 : ∀ w, (binOp .mul 22 (.float .f64 r21) (.float .f64 A)).run Try.prog w = .ok (.float .f64 r27) w := fun w => run_float_arith w .mul 22 .f64 _ _ _ v2
                cases v3 : Ieee.double.mul N B with
                | none =>
                  have R34 : ∀ w, (binOp .mul 22 (.float .f64 N) (.float .f64 B)).run Try.prog w = .ok (.float .f64 (nanW w N B)) w.drew := fun w => run_float_nan w .mul 22 _ _ (by simp) v3
                  clear hL ea eb hN' hvalid hcA hcB m1 m2 m3 fb vb v1 v2 v3
                  go_wp2
                  go_region
                  all_goals
                    go_wp2
                    go_roundw
                    case rel => exact ⟨k + 1, by omega, by go_num, by (repeat apply Legs.drew); exact HL.out.next hlt (HX.out _ (nanB_nanW _ _ _))⟩
                    case measure => simp [intOf]; omega
                | some r34 =>
                  have R34 : ∀ w, (binOp .mul 22 (.float .f64 N) (.float .f64 B)).run Try.prog w = .ok (.float .f64 r34) w := fun w => run_float_arith w .mul 22 .f64 _ _ _ v3
                  cases v4 : Ieee.double.sub r27 r34 with
                  | none =>
                    have R35 : ∀ w, (binOp .sub 22 (.float .f64 r27) (.float .f64 r34)).run Try.prog w = .ok (.float .f64 (nanW w r27 r34)) w.drew := fun w => run_float_nan w .sub 22 _ _ (by simp) v4
                    clear hL ea eb hN' hvalid hcA hcB m1 m2 m3 fb vb v1 v2 v3 v4
                    go_wp2
                    go_region
                    all_goals
                      go_wp2
                      go_roundw
                      case rel => exact ⟨k + 1, by omega, by go_num, by (repeat apply Legs.drew); exact HL.out.next hlt (HX.out _ (nanB_nanW _ _ _))⟩
                      case measure => simp [intOf]; omega
                  | some r35 => exact absurd ⟨r21, r27, r34, r35, v1, v2, v3, v4⟩ hvalid
    · obtain rfl : k = n := by omega
      go_wp2
      go_end0
      exact ⟨rfl, hL⟩
end Go.Proofs.Qxb6621625a
