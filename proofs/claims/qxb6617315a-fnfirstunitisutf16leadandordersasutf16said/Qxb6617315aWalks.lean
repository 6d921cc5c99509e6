import Derived.Test.Qxb6617315aRows
import Derived.WalkKit
import Derived.ProofKit
import Derived.WalkSpells
import Derived.WalkLawsBesides
namespace Go.Proofs.Qxb6617315a
open Go.ChangeShapes Go.WideShapes Go.ChangeAt Go.RowKit

/-- The first UTF-16 unit. -/
def unitOf (r : Int) : Int := if 65535 < r then 55296 + (r - 65536) / 1024 else r

theorem unit_any (r : Int) (h0 : 0 ≤ r) (h1 : r ≤ 1114111) (w : World) :
    Calls Try.prog 4 #[.int .i32 r] w fun e w' => e = .returned (.int .i32 (unitOf r)) ∧ w = w' := by
  unfold unitOf
  by_cases h : 65535 < r
  · rw [if_pos h]
    go_enter Try.func4, Try.ntmps4
    go_wp2
    go_ret
    exact ⟨rfl, rfl⟩
  · rw [if_neg h]
    go_enter Try.func4, Try.ntmps4
    go_wp2
    go_ret
    exact ⟨rfl, rfl⟩

/-- For a code point its own first unit decodes to it. -/
theorem lead_any (r : Int) (h0 : 0 ≤ r) (h1 : r ≤ 1114111) (w : World) :
    Calls Try.prog 5 #[.int .i32 (unitOf r), .int .i32 r] w fun e w' => e = .returned (.bool true) ∧ w = w' := by
  unfold unitOf
  by_cases h : 65535 < r
  · rw [if_pos h]
    have a1 : 55296 ≤ 55296 + (r - 65536) / 1024 := by omega
    have a2 : 55296 + (r - 65536) / 1024 ≤ 56319 := by omega
    obtain ⟨u, hu⟩ : ∃ u, 55296 + (r - 65536) / 1024 = u := ⟨_, rfl⟩
    have b1 : 0 ≤ r - 65536 - (u - 55296) * 1024 := by omega
    have b2 : r - 65536 - (u - 55296) * 1024 ≤ 1023 := by omega
    rw [hu] at a1 a2 ⊢
    clear hu
    go_enter Try.func5, Try.ntmps5
    go_wp2
    go_ret
    exact ⟨rfl, rfl⟩
  · rw [if_neg h]
    go_enter Try.func5, Try.ntmps5
    go_wp2
    go_ret
    exact ⟨by simp, rfl⟩

def cmpI (x y : Int) : Int := if x < y then -1 else if y < x then 1 else 0

theorem cmp_any (x y : Int) (w : World) :
    Calls Try.prog 7 #[.int .i32 x, .int .i32 y] w fun e w' => e = .returned (.int .i64 (cmpI x y)) ∧ w = w' := by
  unfold cmpI
  by_cases h : x < y
  · rw [if_pos h]
    go_enter Try.func7, Try.ntmps7
    go_wp2
    go_ret
    exact ⟨rfl, rfl⟩
  · by_cases h2 : y < x
    · rw [if_neg h, if_pos h2]
      go_enter Try.func7, Try.ntmps7
      go_wp2
      go_ret
      exact ⟨rfl, rfl⟩
    · rw [if_neg h, if_neg h2]
      go_enter Try.func7, Try.ntmps7
      go_wp2
      go_ret
      exact ⟨rfl, rfl⟩

theorem unit_lo {r : Int} (h : r ≤ 65535) : unitOf r = r := by unfold unitOf; rw [if_neg (by omega)]
theorem unit_hi {r : Int} (h : 65535 < r) : unitOf r = 55296 + (r - 65536) / 1024 := by unfold unitOf; rw [if_pos h]
theorem cmp_lt {x y : Int} (h : x < y) : cmpI x y = -1 := by unfold cmpI; rw [if_pos h]
theorem cmp_gt {x y : Int} (h : y < x) : cmpI x y = 1 := by unfold cmpI; rw [if_neg (by omega), if_pos h]
theorem cmp_unit_low {a b : Int} (ha : a ≤ 65535) (hb : b ≤ 65535) : cmpI (unitOf a) (unitOf b) = cmpI a b := by
  unfold unitOf
  rw [if_neg (by omega), if_neg (by omega)]
theorem cmp_unit_high {a b : Int} (ha : 65535 < a) (hb : 65535 < b) : cmpI (unitOf a) (unitOf b) = cmpI (a / 1024) (b / 1024) := by
  unfold unitOf cmpI
  rw [if_pos ha, if_pos hb]
  repeat' split
  all_goals omega

/-- Where the order is not told. -/
def open' (a b : Int) : Prop := (a ≤ 65535 ∧ 55296 ≤ a ∧ a ≤ 56319 ∧ 65535 < b) ∨ (b ≤ 65535 ∧ 55296 ≤ b ∧ b ≤ 56319 ∧ 65535 < a)

theorem order_open (a b : Int) (ha : 0 ≤ a) (ha' : a ≤ 1114111) (hb : 0 ≤ b) (hb' : b ≤ 1114111) (h : open' a b) (w : World) :
    Calls Try.prog 6 #[.int .i32 a, .int .i32 b] w fun e w' => e = .returned (.tuple #[.int .i64 0, .bool false]) ∧ w = w' := by
  rcases h with ⟨h1, h2, h3, h4⟩ | ⟨h1, h2, h3, h4⟩
  · go_enter Try.func6, Try.ntmps6
    go_wp2
    go_ret2
    exact ⟨rfl, rfl⟩
  · go_enter Try.func6, Try.ntmps6
    go_wp2
    go_ret2
    exact ⟨rfl, rfl⟩

theorem order_told (a b : Int) (ha : 0 ≤ a) (ha' : a ≤ 1114111) (hb : 0 ≤ b) (hb' : b ≤ 1114111) (h : ¬ open' a b) (w : World) :
    Calls Try.prog 6 #[.int .i32 a, .int .i32 b] w fun e w' => e = .returned (.tuple #[.int .i64 (cmpI (unitOf a) (unitOf b)), .bool true]) ∧ w = w' := by
  unfold open' at h
  by_cases h1 : a ≤ 65535
  · by_cases h2 : b ≤ 65535
    · rw [cmp_unit_low h1 h2]
      clear h
      go_enter Try.func6, Try.ntmps6
      go_wp2_with (go_at_call 7; refine (cmp_any _ _ _).mono ?_; rintro e w' ⟨rfl, rfl⟩)
      go_ret2
      exact ⟨rfl, rfl⟩
    · by_cases h3 : a < 55296
      · have e : cmpI (unitOf a) (unitOf b) = -1 := by rw [unit_lo (by omega), unit_hi (by omega)]; exact cmp_lt (by omega)
        rw [e]
        clear h e
        go_enter Try.func6, Try.ntmps6
        go_wp2
        go_ret2
        exact ⟨rfl, rfl⟩
      · have h4 : 56319 < a := by omega
        have e : cmpI (unitOf a) (unitOf b) = 1 := by rw [unit_lo (by omega), unit_hi (by omega)]; exact cmp_gt (by omega)
        rw [e]
        clear h e
        go_enter Try.func6, Try.ntmps6
        go_wp2
        go_ret2
        exact ⟨rfl, rfl⟩
  · by_cases h2 : b ≤ 65535
    · by_cases h3 : b < 55296
      · have e : cmpI (unitOf a) (unitOf b) = 1 := by rw [unit_hi (by omega), unit_lo (by omega)]; exact cmp_gt (by omega)
        rw [e]
        clear h e
        go_enter Try.func6, Try.ntmps6
        go_wp2
        go_ret2
        exact ⟨rfl, rfl⟩
      · have h4 : 56319 < b := by omega
        have e : cmpI (unitOf a) (unitOf b) = -1 := by rw [unit_hi (by omega), unit_lo (by omega)]; exact cmp_lt (by omega)
        rw [e]
        clear h e
        go_enter Try.func6, Try.ntmps6
        go_wp2
        go_ret2
        exact ⟨rfl, rfl⟩
    · rw [cmp_unit_high (by omega) (by omega)]
      clear h
      go_enter Try.func6, Try.ntmps6
      go_wp2_with (go_at_call 7; refine (cmp_any _ _ _).mono ?_; rintro e w' ⟨rfl, rfl⟩)
      go_ret2
      exact ⟨rfl, rfl⟩

/-- Outside the code points nothing is looked at. -/
theorem law_out (a b : Int) (h : ¬ (0 ≤ a ∧ a ≤ 1114111 ∧ 0 ≤ b ∧ b ≤ 1114111)) (w : World) :
    Calls Try.prog 3 #[.int .i32 a, .int .i32 b] w fun e w' => e = .returned (.bool true) ∧ w = w' := by
  rcases (show a < 0 ∨ (0 ≤ a ∧ 1114111 < a) ∨ (0 ≤ a ∧ a ≤ 1114111 ∧ b < 0) ∨ (0 ≤ a ∧ a ≤ 1114111 ∧ 0 ≤ b ∧ 1114111 < b) by omega) with h | ⟨h1, h2⟩ | ⟨h1, h2, h3⟩ | ⟨h1, h2, h3, h4⟩
  all_goals
    go_enter Try.func3, Try.ntmps3
    go_wp2
    go_ret
    exact ⟨rfl, rfl⟩

theorem law_in (a b : Int) (ha : 0 ≤ a) (ha' : a ≤ 1114111) (hb : 0 ≤ b) (hb' : b ≤ 1114111) (w : World) :
    Calls Try.prog 3 #[.int .i32 a, .int .i32 b] w fun e w' => e = .returned (.bool true) ∧ w = w' := by
  go_enter Try.func3, Try.ntmps3
  go_wp2_with fail
  refine (unit_any a ha ha' w).mono ?_
  rintro e w' ⟨rfl, rfl⟩
  go_wp2_with fail
  refine (unit_any b hb hb' w).mono ?_
  rintro e w' ⟨rfl, rfl⟩
  go_wp2_with fail
  refine (lead_any a ha ha' w).mono ?_
  rintro e w' ⟨rfl, rfl⟩
  go_wp2_with fail
  refine (lead_any b hb hb' w).mono ?_
  rintro e w' ⟨rfl, rfl⟩
  go_wp2_with fail
  by_cases ho : open' a b
  · refine (order_open a b ha ha' hb hb' ho w).mono ?_
    rintro e w' ⟨rfl, rfl⟩
    go_wp2
    go_ret
    exact ⟨rfl, rfl⟩
  · refine (order_told a b ha ha' hb hb' ho w).mono ?_
    rintro e w' ⟨rfl, rfl⟩
    go_wp2_with (go_at_call 7; refine (cmp_any _ _ _).mono ?_; rintro e w' ⟨rfl, rfl⟩)
    go_ret
    exact ⟨by simp, rfl⟩
end Go.Proofs.Qxb6617315a
