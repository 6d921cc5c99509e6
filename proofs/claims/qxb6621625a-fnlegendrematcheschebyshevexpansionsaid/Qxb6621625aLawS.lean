/- THE WALK OF FnLegendreExactSymmetries. -/
import Derived.Test.Qxb6621625aLeg
import Derived.Deep.RegionWith
namespace Go.Proofs.Qxb6621625a
open Go.ChangeShapes Go.WideShapes Go.ChangeAt Go.RowKit

/-- The negative of a float: the guide's set has it for integers. -/
theorem unary_neg_float (k : FloatKind) (b : Nat) : Op.unary .neg (.float k b) = pure (.float k (Op.negFloat k b)) := rfl
attribute [local go_sem] unary_neg_float

theorem zz_any (base g n cap t : Nat) (l : List Nat) (w : World) (hl : l.length = n) (hn : n ≤ 4096) (hown : w.ownsRow base 22 1 (.slice (some ⟨g, 0, none⟩) n cap) n (FL l)) :
    Calls Try.prog 7 #[.float .f64 t, .slice (some ⟨g, 0, none⟩) n cap] w fun e w' => e = .returned (.tuple #[]) ∧ Legs w base g n cap t n w' := by
  go_enter Try.func7, Try.ntmps7
  go_wp2_with (go_at_call 11; refine (leg_any base g n cap t l w hl hn hown).mono ?_; rintro e w' ⟨rfl, hL⟩)
  go_end0
  exact ⟨rfl, hL⟩

/-- A nil slice: nothing is written. -/
theorem zz_nil (t : Nat) (w : World) : Calls Try.prog 7 #[.float .f64 t, .slice none 0 0] w fun e w' => e = .returned (.tuple #[]) ∧ w = w' := by
  go_enter Try.func7, Try.ntmps7
  go_wp2
  refine wp_loop_rounds 1 ?_
  rw [rounds_succ]
  go_wp2
  go_end0
  go_wp2
  go_end0
  exact ⟨rfl, rfl⟩

theorem grown_of_below {w w' : World} (h : Below w.heap.size w w') : w.grownBy w' none := ⟨h.os, h.tape, h.output, h.size, fun k hk _ => h.block k hk⟩
theorem own_below {w w' : World} {base e size : Nat} {v : Value} {n : Nat} {xs : List Value} (h : w.ownsRow base e size v n xs) (hb : Below w.heap.size w w') : w'.ownsRow base e size v n xs :=
  h.kept (grown_of_below hb) (by cases v.ownBlock <;> simp)
theorem own_other {w w' : World} {base e size q : Nat} {g n cap : Nat} {xs : List Value} (h : w.ownsRow base e size (.slice (some ⟨g, 0, none⟩) n cap) n xs) (hg : w.grownBy w' (some q)) (hne : g ≠ q) : w'.ownsRow base e size (.slice (some ⟨g, 0, none⟩) n cap) n xs :=
  h.kept hg (.inr (by simpa [Value.ownBlock] using hne))
theorem own_lt {w : World} {base g n cap : Nat} {xs : List Value} (h : w.ownsRow base 22 1 (.slice (some ⟨g, 0, none⟩) n cap) n xs) : base ≤ g ∧ g < w.heap.size := h.lt g rfl
theorem own_at {w : World} {base g n cap : Nat} {l : List Nat} (h : w.ownsRow base 22 1 (.slice (some ⟨g, 0, none⟩) n cap) n (FL l)) : ∀ i v, (FL l)[i]? = some v → w.cell? ((⟨g, 0, none⟩ : Addr).add i) = some v := h.cells rfl
theorem below_drewN {B : Nat} {a w : World} (h : Below B a w) (n : Nat) : Below B a (w.drewN n) := ⟨h.os, h.tape, h.output, h.size, h.block⟩

/-- What a row that legendre has filled shows. -/
def Shows (w : World) (g n t : Nat) : Prop := ∀ i, i < n → ∃ x, w.cell? ⟨g, i, none⟩ = some (.float .f64 x) ∧ cn x = leg (cn t) i
theorem shows_of {w : World} {base g n cap t : Nat} {l : List Nat} (h1 : l.length = n) (h : w.ownsRow base 22 1 (.slice (some ⟨g, 0, none⟩) n cap) n (FL l)) (h3 : ∀ i, i < n → cn (l.getD i 0) = leg (cn t) i) : Shows w g n t := fun i hi => by
  refine ⟨l.getD i 0, ?_, h3 i hi⟩
  rw [h.cellAt i (by omega)]
  simp [FL, List.getElem?_eq_getElem (show i < l.length by omega), List.getD]

theorem take_at {zs : List Nat} {m i : Nat} {v : Value} (h : (FL (zs.take m))[i]? = some v) : (FL zs)[i]? = some v := by
  simp only [FL, List.getElem?_map, List.getElem?_take] at h ⊢
  split at h
  · exact h
  · cases h

theorem neg_sgW (k : Nat) : Op.negFloat .f64 (sgW k) = sgW (k + 1) := by
  unfold sgW
  rcases Nat.mod_two_eq_zero_or_one k with h | h
  · rw [if_neg (by omega), if_pos (by omega)]; decide
  · rw [if_pos h, if_neg (by omega)]; decide

/-! What the third loop's tests see, in the walk's own words. -/
theorem tell_one {t e k : Nat} (hk : k ≤ 4096) (he : cn e = leg (cn t) k) : ((FloatKind.f64.format.order t 4607182418800017408 == some .eq) = false) ∨ ((FloatKind.f64.format.order t 4607182418800017408 == some .eq) = true ∧ (FloatKind.f64.format.order e 4607182418800017408 != some .eq) = false) := by
  by_cases h : Ieee.double.order t one = some .eq
  · have h2 := see_one hk h he
    exact .inr ⟨beq_iff_eq.2 h, by show (Ieee.double.order e one != some .eq) = false; rw [h2]; rfl⟩
  · exact .inl (beq_eq_false_iff_ne.2 h)
theorem tell_mone {t e k : Nat} (hk : k ≤ 4096) (he : cn e = leg (cn t) k) : ((FloatKind.f64.format.order t 13830554455654793216 == some .eq) = false) ∨ ((FloatKind.f64.format.order t 13830554455654793216 == some .eq) = true ∧ (FloatKind.f64.format.order e (sgW k) != some .eq) = false) := by
  by_cases h : Ieee.double.order t mone = some .eq
  · have h2 := see_mone hk h he
    exact .inr ⟨beq_iff_eq.2 h, by show (Ieee.double.order e (sgW k) != some .eq) = false; rw [h2]; rfl⟩
  · exact .inl (beq_eq_false_iff_ne.2 h)
theorem tell_zero {t e k : Nat} (hk : k ≤ 4096) (he : cn e = leg (cn t) k) : ((FloatKind.f64.format.order t 0 == some .eq) = false) ∨ ((FloatKind.f64.format.order t 0 == some .eq) = true ∧ ((k : Int) % 2 == 1) = false) ∨
    ((FloatKind.f64.format.order t 0 == some .eq) = true ∧ ((k : Int) % 2 == 1) = true ∧ (FloatKind.f64.format.order e 0 != some .eq) = false) := by
  by_cases h : Ieee.double.order t 0 = some .eq
  · by_cases ho : k % 2 = 1
    · have h2 := see_zero hk ho h he
      exact .inr (.inr ⟨beq_iff_eq.2 h, by simp; omega, by show (Ieee.double.order e 0 != some .eq) = false; rw [h2]; rfl⟩)
    · exact .inr (.inl ⟨beq_iff_eq.2 h, by simp; omega⟩)
  · exact .inl (beq_eq_false_iff_ne.2 h)

/-- Too long: nothing is looked at. -/
theorem lawS_long (t : Nat) (x : Option Addr) (n c : Nat) (w : World) (hn : n ≤ maxLen) (h : ¬ n ≤ 4096) :
    Calls Try.prog 4 #[.float .f64 t, .slice x n c] w fun e w' => e = .returned (.bool true) ∧ Below w.heap.size w w' := by
  by_cases h1 : n ≤ 1048576
  · have h2 : 4096 < n := by omega
    go_enter Try.func4, Try.ntmps4
    go_wp2_with (go_at_call 10; refine (bound_yes _ _ _ _ _ h1).mono ?_; rintro e w' ⟨rfl, rfl⟩)
    go_ret
    exact ⟨rfl, Below.refl _ _⟩
  · go_enter Try.func4, Try.ntmps4
    go_wp2_with (go_at_call 10; refine (bound_no _ _ _ _ _ hn h1).mono ?_; rintro e w' ⟨rfl, rfl⟩)
    go_ret
    exact ⟨rfl, Below.refl _ _⟩

set_option maxRecDepth 10000 in
set_option maxHeartbeats 4000000 in
theorem lawS_row (t : Nat) (x : Option Addr) (cap : Nat) (zs : List Nat) (w : World) (ht : t < 18446744073709551616) (hn : zs.length ≤ 4096)
    (hcl : Calls Try.prog 6 #[.slice x zs.length cap] w fun e w' => e = .returned (.slice (some ⟨w.heap.size, 0, none⟩) zs.length zs.length) ∧
      w'.ownsRow w.heap.size 22 1 (.slice (some ⟨w.heap.size, 0, none⟩) zs.length zs.length) zs.length (FL zs) ∧ Below w.heap.size w w') :
    Calls Try.prog 4 #[.float .f64 t, .slice x zs.length cap] w fun e w' => e = .returned (.bool true) ∧ Below w.heap.size w w' := by
  have CL := hide hcl
  have HT := hide ht
  clear hcl ht
  have hbd : zs.length ≤ 1048576 := by omega
  obtain ⟨n, hzn⟩ : ∃ n, zs.length = n := ⟨_, rfl⟩
  have HZ := hide hzn
  rw [hzn] at hn hbd CL ⊢
  clear hzn
  have d1 : decide ((4096 : Int) < (n : Int)) = false := decide_eq_false (by omega)
  go_enter Try.func4, Try.ntmps4
  go_wp2_with (go_at_call 10; refine (bound_yes _ _ _ _ _ hbd).mono ?_; rintro e w' ⟨rfl, rfl⟩)
  refine CL.out.mono ?_
  rintro e w1 ⟨rfl, ho1, hb1⟩
  clear CL
  have O1 := hide ho1
  have B1 := hide hb1
  have s1 : w.heap.size < w1.heap.size := (own_lt ho1).2
  clear ho1 hb1
  go_wp2_with fail
  refine (clone_row ⟨w.heap.size, 0, none⟩ n n zs w1 HZ.out (by omega) (own_at O1.out) (fun _ => s1)).mono ?_
  rintro e w2 ⟨rfl, ho2, hb2⟩
  have E2 := hide ho2
  have P2 := hide (own_below O1.out hb2)
  have B2 : Hid (Below w.heap.size w w2) := B1.out.trans (hb2.mono (by omega))
  have s2 : w1.heap.size < w2.heap.size := (own_lt ho2).2
  clear ho2 hb2 O1 B1
  go_wp2_with fail
  refine (clone_row ⟨w.heap.size, 0, none⟩ n n zs w2 HZ.out (by omega) (own_at P2.out) (fun _ => by show w.heap.size < _; omega)).mono ?_
  rintro e w3 ⟨rfl, ho3, hb3⟩
  have Q3 := hide ho3
  have P3 := hide (own_below P2.out hb3)
  have E3 := hide (own_below E2.out hb3)
  have B3 : Hid (Below w.heap.size w w3) := B2.out.trans (hb3.mono (by omega))
  have s3 : w2.heap.size < w3.heap.size := (own_lt ho3).2
  clear ho3 hb3 E2 P2 B2
  go_wp2_with fail
  have htl : (zs.take (n / 2)).length = n / 2 := by rw [List.length_take, HZ.out]; omega
  refine (clone_row ⟨w.heap.size, 0, none⟩ (n / 2) n (zs.take (n / 2)) w3 htl (by omega) (fun i v hv => own_at P3.out i v (take_at hv)) (fun _ => by show w.heap.size < _; omega)).mono ?_
  rintro e w4 ⟨rfl, ho4, hb4⟩
  have H4 := hide ho4
  have E4 := hide (own_below E3.out hb4)
  have Q4 := hide (own_below Q3.out hb4)
  have B4 : Hid (Below w.heap.size w w4) := B3.out.trans (hb4.mono (by omega))
  have s4 : w3.heap.size < w4.heap.size := (own_lt ho4).2
  clear ho4 hb4 E3 Q3 P3 B3
  go_wp2_with fail
  refine (zz_any w1.heap.size w1.heap.size n n t zs w4 HZ.out hn E4.out).mono ?_
  rintro e w5 ⟨rfl, L5⟩
  obtain ⟨le, le1, le2, le3⟩ := L5.row
  have E5 := hide le2
  have HE1 := hide le1
  have HE3 := hide le3
  have Q5 := hide (own_other Q4.out L5.grown (by omega))
  have H5 := hide (own_other H4.out L5.grown (by omega))
  have B5 : Hid (Below w.heap.size w w5) := B4.out.grown L5.grown (by omega) (fun q h => by cases h; omega)
  have s5 : w4.heap.size ≤ w5.heap.size := L5.grown.size
  clear L5 le1 le2 le3 Q4 H4 B4 E4
  go_wp2_with fail
  refine (zz_any w2.heap.size w2.heap.size n n (Op.negFloat .f64 t) zs w5 HZ.out hn Q5.out).mono ?_
  rintro e w6 ⟨rfl, L6⟩
  obtain ⟨lo, lo1, lo2, lo3⟩ := L6.row
  have Q6 := hide lo2
  have HO1 := hide lo1
  have HO3 := hide lo3
  have E6 := hide (own_other E5.out L6.grown (by omega))
  have H6 := hide (own_other H5.out L6.grown (by omega))
  have B6 : Hid (Below w.heap.size w w6) := B5.out.grown L6.grown (by omega) (fun q h => by cases h; omega)
  have s6 : w5.heap.size ≤ w6.heap.size := L6.grown.size
  clear L6 lo1 lo2 lo3 E5 H5 B5 Q5
  go_wp2_with fail
  refine (zz_any w3.heap.size w3.heap.size (n / 2) (n / 2) t (zs.take (n / 2)) w6 htl (by omega) H6.out).mono ?_
  rintro e w7 ⟨rfl, L7⟩
  obtain ⟨lh, lh1, lh2, lh3⟩ := L7.row
  have SH : Hid (Shows w7 w3.heap.size (n / 2) t) := shows_of lh1 lh2 lh3
  have SE : Hid (Shows w7 w1.heap.size n t) := shows_of HE1.out (own_other E6.out L7.grown (by omega)) HE3.out
  have SO : Hid (Shows w7 w2.heap.size n (Op.negFloat .f64 t)) := shows_of HO1.out (own_other Q6.out L7.grown (by omega)) HO3.out
  have B7 : Hid (Below w.heap.size w w7) := B6.out.grown L7.grown (by omega) (fun q h => by cases h; omega)
  clear L7 lh1 lh2 lh3 E6 H6 B6 Q6 HE1 HE3 HO1 HO3 htl
  go_wp2
  go_loopw [9, 10] (fun s i wr => ∃ k : Nat, k ≤ n ∧ i = .int .i64 k ∧ s = .float .f64 (sgW k) ∧ ∃ m, wr = w7.drewN m) (fun _ i _ => n - (intOf i).toNat)
  case atStart => exact ⟨0, Nat.zero_le _, rfl, rfl, 0, rfl⟩
  case round =>
  obtain ⟨k, hk, rfl, rfl, m, rfl⟩ := hrel
  by_cases hlt : k < n
  · obtain ⟨e, ce, he⟩ := SE.out k hlt
    obtain ⟨o, co, ho⟩ := SO.out k hlt
    have y1 : (k : Int) < (n : Int) := by omega
    rcases see_sym HT.out (by omega) he ho with ⟨n1, n2⟩ | ⟨n1, r, hr, hsame⟩
    · have hU : ∀ w x y, sameB o (nanW w x y) = true := fun w x y => same_nan n2 (nanB_nanW w x y)
      have R0 : ∀ w, (binOp .mul 22 (.float .f64 (sgW k)) (.float .f64 e)).run Try.prog w = .ok (.float .f64 (nanW w (sgW k) e)) w.drew := fun w => run_float_nan w .mul 22 _ _ (by simp) (mul_nan_r _ n1)
      have hng := neg_sgW k
      obtain ⟨S, hS⟩ : ∃ S, sgW k = S := ⟨_, rfl⟩
      obtain ⟨S', hS'⟩ : ∃ S', sgW (k + 1) = S' := ⟨_, rfl⟩
      rw [hS, hS'] at hng
      rw [hS] at R0 ⊢
      have HS := hide hS'
      clear n1 n2 he ho hS hS'
      go_wp2
      go_region_with (go_at_call 8; refine (same_any _ _ _).mono ?_; rintro e w' ⟨rfl, rfl⟩)
      all_goals
        go_wp2
        go_roundw
        case rel => exact ⟨k + 1, by omega, by go_num, by rw [HS.out], _, rfl⟩
        case measure => simp [intOf]; omega
    · have R0 : ∀ w, (binOp .mul 22 (.float .f64 (sgW k)) (.float .f64 e)).run Try.prog w = .ok (.float .f64 r) w := fun w => run_float_arith w .mul 22 .f64 _ _ _ hr
      have hng := neg_sgW k
      obtain ⟨S, hS⟩ : ∃ S, sgW k = S := ⟨_, rfl⟩
      obtain ⟨S', hS'⟩ : ∃ S', sgW (k + 1) = S' := ⟨_, rfl⟩
      rw [hS, hS'] at hng
      rw [hS] at R0 ⊢
      have HS := hide hS'
      clear n1 he ho hr hS hS'
      go_wp2
      go_region_with (go_at_call 8; refine (same_any _ _ _).mono ?_; rintro e w' ⟨rfl, rfl⟩)
      all_goals
        go_wp2
        go_roundw
        case rel => exact ⟨k + 1, by omega, by go_num, by rw [HS.out], _, rfl⟩
        case measure => simp [intOf]; omega
  have hkn : ¬ k < n := hlt
  clear SO
  obtain rfl : n = k := by omega
  go_wp2
  go_loopw [11] (fun i wr => ∃ k : Nat, k ≤ n / 2 ∧ i = .int .i64 k ∧ ∃ m, wr = w7.drewN m) (fun i _ => n / 2 - (intOf i).toNat)
  case atStart => exact ⟨0, Nat.zero_le _, rfl, m, rfl⟩
  case round =>
  obtain ⟨k, hk, rfl, m2, rfl⟩ := hrel
  by_cases hlt2 : k < n / 2
  · obtain ⟨e, ce, he⟩ := SE.out k (by omega)
    obtain ⟨h, ch, hh⟩ := SH.out k hlt2
    have hsame : sameB h e = true := same_cn (hh.trans he.symm)
    have y1 : (k : Int) < (n : Int) := by omega
    have y2 : (k : Int) < (n : Int) / 2 := by omega
    clear he hh
    go_wp2
    go_region_with (go_at_call 8; refine (same_any _ _ _).mono ?_; rintro e w' ⟨rfl, rfl⟩)
    all_goals
      go_wp2
      go_roundw
      case rel => exact ⟨k + 1, by omega, by go_num, _, rfl⟩
      case measure => simp [intOf]; omega
  have hk2 : k = n / 2 := by omega
  subst hk2
  clear SH
  go_wp2
  go_loopw [12, 13] (fun s i wr => ∃ k : Nat, k ≤ n ∧ i = .int .i64 k ∧ s = .float .f64 (sgW k) ∧ wr = w7.drewN m2) (fun _ i _ => n - (intOf i).toNat)
  case atStart => exact ⟨0, Nat.zero_le _, rfl, rfl, rfl⟩
  case round =>
  obtain ⟨k, hk, rfl, rfl, rfl⟩ := hrel
  by_cases hlt3 : k < n
  · obtain ⟨e, ce, he⟩ := SE.out k hlt3
    have y1 : (k : Int) < (n : Int) := by omega
    have T1 := tell_one (by omega) he
    have T2 := tell_mone (by omega) he
    have T3 := tell_zero (by omega) he
    have hng := neg_sgW k
    obtain ⟨S, hS⟩ : ∃ S, sgW k = S := ⟨_, rfl⟩
    obtain ⟨S', hS'⟩ : ∃ S', sgW (k + 1) = S' := ⟨_, rfl⟩
    rw [hS, hS'] at hng
    rw [hS] at T2 ⊢
    have HS := hide hS'
    clear he hS hS' SE
    rcases T1 with T1 | ⟨T1, C1⟩ <;> rcases T2 with T2 | ⟨T2, C2⟩ <;> rcases T3 with T3 | ⟨T3, D3⟩ | ⟨T3, D3, C3⟩
    all_goals
      go_wp2
      go_roundw
      case rel => exact ⟨k + 1, by omega, by go_num, by rw [HS.out], trivial⟩
      case measure => simp [intOf]; omega
  go_wp2
  go_ret
  exact ⟨rfl, below_drewN B7.out _⟩

set_option maxHeartbeats 1000000 in
theorem lawS_nil (t : Nat) (w : World) :
    Calls Try.prog 4 #[.float .f64 t, .slice none 0 0] w fun e w' => e = .returned (.bool true) ∧ Below w.heap.size w w' := by
  go_enter Try.func4, Try.ntmps4
  go_wp2_with (go_at_call 10; refine (bound_yes _ _ _ _ _ (Nat.zero_le _)).mono ?_; rintro e w' ⟨rfl, rfl⟩)
  refine (clone_nil w).mono ?_
  rintro e w' ⟨rfl, rfl⟩
  go_wp2_with fail
  refine (clone_nil w).mono ?_
  rintro e w' ⟨rfl, rfl⟩
  go_wp2_with fail
  refine (clone_nil w).mono ?_
  rintro e w' ⟨rfl, rfl⟩
  go_wp2_with fail
  refine (clone_nil w).mono ?_
  rintro e w' ⟨rfl, rfl⟩
  go_wp2_with fail
  refine (zz_nil _ w).mono ?_
  rintro e w' ⟨rfl, rfl⟩
  go_wp2_with fail
  refine (zz_nil _ w).mono ?_
  rintro e w' ⟨rfl, rfl⟩
  go_wp2_with fail
  refine (zz_nil _ w).mono ?_
  rintro e w' ⟨rfl, rfl⟩
  go_wp2
  refine wp_loop_rounds 1 ?_
  rw [rounds_succ]
  go_wp2
  refine wp_loop_rounds 1 ?_
  rw [rounds_succ]
  go_wp2
  refine wp_loop_rounds 1 ?_
  rw [rounds_succ]
  go_wp2
  go_ret
  exact ⟨rfl, Below.refl _ _⟩
end Go.Proofs.Qxb6621625a
