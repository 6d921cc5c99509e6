/- THE WALKS: the bounds, the copy, the comparison; the law on a float operation that gives a NaN. -/
import Derived.Test.Qxb6621625aRows
import Derived.Test.Qxb6621625aPlain
import Derived.WalkKit
import Derived.ProofKit
import Derived.Below
import Derived.WalkSpells
import Derived.WalkLawsBesides
import Derived.Lib.SliceRun
import Derived.Deep.QuietTactic
import Derived.BigQuiet
import Derived.Laws.CopyOwn
import Derived.Maps.AppendAt
namespace Go.Proofs.Qxb6621625a
open Go.ChangeShapes Go.WideShapes Go.ChangeAt Go.RowKit

theorem Try.info22 : (Try.prog.info? 22).map (fun i => (i.zero, i.size, i.bytes)) = some (some (.float .f64 0), 1, 8) := by kernel_rfl
theorem Try.size22 : (Try.prog.info? 22).map (·.size) = some 1 := by kernel_rfl
theorem hide {p : Prop} (h : p) : Hid p := h

/-! ### A float operation without an answer: a NaN, off the tape -/
def nanW (w : World) (x y : Nat) : Nat := Question.cut (.nanBits .f64 x y) (w.tape w.drawn (.nanBits .f64 x y))
theorem nanB_nanW (w : World) (x y : Nat) : nanB (nanW w x y) = true := by
  unfold nanB rd nanW
  generalize w.tape w.drawn (.nanBits .f64 x y) = t
  simp only [Question.cut, Ieee.Format.read, binade_eq, infRung_eq, sw_eq]
  have h1 : (t % 2 * 2 ^ 63 + 0x7ff0000000000000 + 1 + t / 2 % (2 ^ 52 - 1)) % 9223372036854775808 = 0x7ff0000000000000 + 1 + t / 2 % (2 ^ 52 - 1) := by omega
  rw [h1, if_neg (by omega), if_neg (by omega), if_neg (by omega)]
  rfl
theorem run_float_nan {P : Program} (w : World) (op : BinOp) (t : TypeId) (x y : Nat) (ho : op = .add ∨ op = .sub ∨ op = .mul ∨ op = .quo) (h : floatBits op .f64 x y = none) :
    (binOp op t (.float .f64 x) (.float .f64 y)).run P w = .ok (.float .f64 (nanW w x y)) w.drew := by
  unfold floatBits at h
  rcases ho with rfl | rfl | rfl | rfl <;> simp only at h <;> simp [binOp, Op.floatArith, h, choose, nanW] <;> rfl

theorem opp_nan {d : Ieee.Datum} (h : d.isNaN = true) : d.opposite.isNaN = true := by cases d <;> first | rfl | cases h
theorem sum_nan_l {a b : Ieee.Datum} (h : a.isNaN = true) : a.sum b = none := by cases a <;> first | rfl | cases h
theorem sum_nan_r {a b : Ieee.Datum} (h : b.isNaN = true) : a.sum b = none := by cases b <;> first | (cases a <;> rfl) | cases h
theorem product_nan_l {a b : Ieee.Datum} (h : a.isNaN = true) : a.product b = none := by cases a <;> first | rfl | cases h
theorem product_nan_r {a b : Ieee.Datum} (h : b.isNaN = true) : a.product b = none := by cases b <;> first | (cases a <;> rfl) | cases h
theorem quotient_nan_l {n : Nat} {a b : Ieee.Datum} (h : a.isNaN = true) : a.quotient n b = none := by cases a <;> first | rfl | cases h
theorem mul_nan_l {x : Nat} (y : Nat) (h : nanB x = true) : Ieee.double.mul x y = none := by rw [Ieee.Format.mul, product_nan_l (a := Ieee.double.read x) h]; rfl
theorem mul_nan_r (x : Nat) {y : Nat} (h : nanB y = true) : Ieee.double.mul x y = none := by rw [Ieee.Format.mul, product_nan_r (b := Ieee.double.read y) h]; rfl
theorem sub_nan_l {x : Nat} (y : Nat) (h : nanB x = true) : Ieee.double.sub x y = none := by rw [Ieee.Format.sub, sum_nan_l (a := Ieee.double.read x) h]; rfl
theorem sub_nan_r (x : Nat) {y : Nat} (h : nanB y = true) : Ieee.double.sub x y = none := by rw [Ieee.Format.sub, sum_nan_r (b := (Ieee.double.read y).opposite) (opp_nan h)]; rfl
theorem div_nan_l {x : Nat} (y : Nat) (h : nanB x = true) : Ieee.double.div x y = none := by rw [Ieee.Format.div, quotient_nan_l (a := Ieee.double.read x) h]; rfl

/-! ### The bounds -/
theorem bound_yes (t : Nat) (a : Option Addr) (n c : Nat) (w : World) (h : n ≤ 1048576) :
    Calls Try.prog 10 #[.float .f64 t, .slice a n c] w fun e w' => e = .returned (.bool true) ∧ w = w' := by
  go_enter Try.func10, Try.ntmps10
  go_wp2
  go_ret
  exact ⟨rfl, rfl⟩
theorem bound_no (t : Nat) (a : Option Addr) (n c : Nat) (w : World) (hn : n ≤ maxLen) (h : ¬ n ≤ 1048576) :
    Calls Try.prog 10 #[.float .f64 t, .slice a n c] w fun e w' => e = .returned (.bool false) ∧ w = w' := by
  unfold maxLen at hn
  go_enter Try.func10, Try.ntmps10
  go_wp2
  go_ret
  exact ⟨rfl, rfl⟩
theorem boundM_yes (t : Nat) (a : Option Addr) (n c : Nat) (w : World) (h : n ≤ 1048576) :
    Calls Try.prog 5 #[.float .f64 t, .slice a n c] w fun e w' => e = .returned (.bool true) ∧ w = w' := by
  go_enter Try.func5, Try.ntmps5
  go_wp2
  go_ret
  exact ⟨rfl, rfl⟩
theorem boundM_no (t : Nat) (a : Option Addr) (n c : Nat) (w : World) (hn : n ≤ maxLen) (h : ¬ n ≤ 1048576) :
    Calls Try.prog 5 #[.float .f64 t, .slice a n c] w fun e w' => e = .returned (.bool false) ∧ w = w' := by
  unfold maxLen at hn
  go_enter Try.func5, Try.ntmps5
  go_wp2
  go_ret
  exact ⟨rfl, rfl⟩

/-! ### The comparison -/
theorem same_any (x y : Nat) (w : World) :
    Calls Try.prog 8 #[.float .f64 x, .float .f64 y] w fun e w' => e = .returned (.bool (sameB x y)) ∧ w' = w := by
  unfold sameB
  by_cases h : (Ieee.double.order x x != some .eq) = true
  · rw [if_pos h]
    have h' : (FloatKind.f64.format.order x x != some .eq) = true := h
    clear h
    go_enter Try.func8, Try.ntmps8
    go_wp2
    go_ret
    exact ⟨rfl, rfl⟩
  · rw [if_neg h]
    have h' : (FloatKind.f64.format.order x x != some .eq) = false := (Bool.eq_false_iff.2 h : (Ieee.double.order x x != some .eq) = false)
    clear h
    go_enter Try.func8, Try.ntmps8
    go_wp2
    go_ret
    exact ⟨rfl, rfl⟩

/-! ### The copy -/
abbrev FL (l : List Nat) : List Value := l.map (Value.float .f64)

theorem add_block (x : Addr) (j : Nat) : (x.add j).block = x.block := by unfold Addr.add; split <;> rfl

theorem clone_nil (w : World) :
    Calls Try.prog 6 #[.slice none 0 0] w fun e w' => e = .returned (.slice none 0 0) ∧ w = w' := by
  have q23 : ∀ (w : World) (a : Option Addr) (n c n' c' : Nat), (binOp .eql 23 (.slice a n c) (.slice none n' c')).run Try.prog w = .ok (.bool a.isNone) w := fun w a n c n' c' => Lib.run_eql_slice_nil w _ _ a n c n' c' Try.underlying23
  go_enter Try.func6, Try.ntmps6
  go_wp2
  go_ret
  exact ⟨rfl, rfl⟩

set_option maxHeartbeats 400000 in
theorem clone_row (x : Addr) (len cap : Nat) (zs : List Nat) (w : World) (hl : zs.length = len) (hb : len ≤ 1048576) (hc : ∀ i v, (FL zs)[i]? = some v → w.cell? (x.add i) = some v) (hbw : 0 < len → x.block < w.heap.size) :
    Calls Try.prog 6 #[.slice (some x) len cap] w fun e w' => e = .returned (.slice (some ⟨w.heap.size, 0, none⟩) len len) ∧
      w'.ownsRow w.heap.size 22 1 (.slice (some ⟨w.heap.size, 0, none⟩) len len) len (FL zs) ∧ Below w.heap.size w w' := by
  have q23 : ∀ (w : World) (a : Option Addr) (n c n' c' : Nat), (binOp .eql 23 (.slice a n c) (.slice none n' c')).run Try.prog w = .ok (.bool a.isNone) w := fun w a n c n' c' => Lib.run_eql_slice_nil w _ _ a n c n' c' Try.underlying23
  obtain ⟨i0, hi, hz0, hz1, hz2⟩ := info_parts Try.info22
  go_enter Try.func6, Try.ntmps6
  go_wp2_with (first
    | (at_make; refine wpList_make_full _ rfl _ _ 23 rfl w.heap.size 22 i0 (.float .f64 0) 1 Try.underlying23 hi hz0 hz1 _ _ _ _ len rfl rfl rfl rfl ?b1 ?b2 (Nat.le_refl _) ?_)
    | go_in)
  case b1 => rw [hz2]; omega
  case b2 => unfold maxLen; omega
  intro w1 hown hgrow
  have hb1 : Below w.heap.size w w1 := (Below.refl _ _).grown hgrow (Nat.le_refl _) (fun k h => by cases h)
  rcases hown.2 with ⟨h, _⟩ | ⟨g, cp, cur, h, _, hg, _, hcm, hcs, htake⟩
  · cases h
  simp only [Value.slice.injEq, Option.some.injEq, Addr.mk.injEq, and_true, true_and] at h
  obtain ⟨rfl, rfl⟩ := h
  clear hgrow hown htake
  by_cases h0 : len = 0
  · subst h0
    have hz : zs = [] := List.eq_nil_of_length_eq_zero hl
    subst hz
    go_wp2_with (refine wpList_copy_nothing rfl (.tmp 9) (.tmp 10) 23 23 rfl 22 Try.underlying23 Try.size22 (some ⟨w.heap.size, 0, none⟩) (some x) 0 0 0 cap rfl rfl rfl ?_)
    go_ret
    exact ⟨rfl, ⟨rfl, .inr ⟨w.heap.size, 0, cur, rfl, Nat.le_refl _, hg, Nat.le_refl _, Nat.zero_le _, hcs, by simp⟩⟩, hb1⟩
  · have hsrc : ∀ j v, (FL zs)[j]? = some v → w1.cell? (x.add j) = some v := fun j v hj => (hb1.cell (by rw [add_block]; exact hbw (by omega))).trans (hc j v hj)
    have hcz : cur.size = len := by simpa using hcs
    obtain ⟨fz, hfz⟩ : ∃ fz, FL zs = fz := ⟨_, rfl⟩
    have hfl : fz.length = len := by rw [← hfz]; simp [hl]
    have h1c : ∀ v ∈ fz, v.oneCell' = true := fun v hv => by rw [← hfz] at hv; obtain ⟨_, _, rfl⟩ := List.mem_map.1 hv; rfl
    rw [hfz] at hsrc
    have HF := hide hfz
    clear hc hfz
    go_wp2_with (refine wpList_copy_own rfl (.tmp 9) (.tmp 10) 23 23 rfl 22 Try.underlying23 Try.size22 w.heap.size 0 len len x len cap rfl rfl cur 22 hg fz (by rw [hfl]; exact (Nat.min_self _).symm) hsrc (by rw [hfl, hcz]; omega) h1c ?_)
    go_ret
    refine ⟨rfl, ⟨by simp [hl], .inr ⟨w.heap.size, len, _, rfl, Nat.le_refl _, setRow_heap _ _ _ _ _ _ hg, Nat.le_refl _, hcm, ?_, ?_⟩⟩, below_setRow hb1 (Nat.le_refl _) _⟩
    · simp [hfl, hcz]
    · rw [HF.out]; simp [hfl]
end Go.Proofs.Qxb6621625a
