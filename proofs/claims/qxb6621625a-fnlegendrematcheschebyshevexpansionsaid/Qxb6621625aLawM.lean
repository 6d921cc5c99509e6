/- THE WALK OF FnLegendreMatchesChebyshevExpansion. -/
import Derived.Test.Qxb6621625aTab
namespace Go.Proofs.Qxb6621625a
open Go.ChangeShapes Go.WideShapes Go.ChangeAt Go.RowKit
attribute [local go_sem] run_store_float

/-- The two comparisons with a constant, in the walk's own words. -/
theorem geq_in {t : Nat} {b : Bool} (h : inB t = b) : (FloatKind.f64.format.order t 13830554455654793216 == some .gt || FloatKind.f64.format.order t 13830554455654793216 == some .eq) = b := h
theorem leq_in {t : Nat} {b : Bool} (h : inC t = b) : (FloatKind.f64.format.order t 4607182418800017408 == some .lt || FloatKind.f64.format.order t 4607182418800017408 == some .eq) = b := h

theorem made_FL {w : World} {base g n : Nat} (h : w.ownsRow base 22 1 (.slice (some ⟨g, 0, none⟩) n n) n (madeCells #[Value.float .f64 0] n).toList) :
    w.ownsRow base 22 1 (.slice (some ⟨g, 0, none⟩) n n) n (FL (List.replicate n 0)) := by
  have e : (madeCells #[Value.float .f64 0] n).toList = FL (List.replicate n 0) := by
    rw [toList_madeCells_one]
    simp [FL]
  rwa [e] at h

set_option maxRecDepth 10000 in
/-- Too long: nothing is looked at. -/
theorem lawM_long (t : Nat) (x : Option Addr) (n c : Nat) (w : World) (hn : n ≤ maxLen) (h : ¬ n ≤ 4096) :
    Calls Try.prog 3 #[.float .f64 t, .slice x n c] w fun e w' => e = .returned (.bool true) ∧ Below w.heap.size w w' := by
  by_cases h1 : n ≤ 1048576
  · have h2 : 4096 < n := by omega
    go_enter Try.func3, Try.ntmps3
    go_wp2_with (go_at_call 5; refine (boundM_yes _ _ _ _ _ h1).mono ?_; rintro e w' ⟨rfl, rfl⟩)
    go_ret
    exact ⟨rfl, Below.refl _ _⟩
  · go_enter Try.func3, Try.ntmps3
    go_wp2_with (go_at_call 5; refine (boundM_no _ _ _ _ _ hn h1).mono ?_; rintro e w' ⟨rfl, rfl⟩)
    go_ret
    exact ⟨rfl, Below.refl _ _⟩

set_option maxRecDepth 10000 in
set_option maxHeartbeats 4000000 in
theorem lawM_row (t : Nat) (x : Option Addr) (cap : Nat) (zs : List Nat) (w : World) (hn : zs.length ≤ 4096)
    (hcl : Calls Try.prog 6 #[.slice x zs.length cap] w fun e w' => e = .returned (.slice (some ⟨w.heap.size, 0, none⟩) zs.length zs.length) ∧
      w'.ownsRow w.heap.size 22 1 (.slice (some ⟨w.heap.size, 0, none⟩) zs.length zs.length) zs.length (FL zs) ∧ Below w.heap.size w w') :
    Calls Try.prog 3 #[.float .f64 t, .slice x zs.length cap] w fun e w' => e = .returned (.bool true) ∧ Below w.heap.size w w' := by
  have CL := hide hcl
  clear hcl
  have hbd : zs.length ≤ 1048576 := by omega
  obtain ⟨n, hzn⟩ : ∃ n, zs.length = n := ⟨_, rfl⟩
  have HZ := hide hzn
  rw [hzn] at hn hbd CL ⊢
  clear hzn
  have d1 : decide ((4096 : Int) < (n : Int)) = false := decide_eq_false (by omega)
  obtain ⟨i0, hi, hz0, hz1, hz2⟩ := info_parts Try.info22
  have HI := hide hi
  have HI0 := hide hz0
  have HI1 := hide hz1
  have HI2 := hide hz2
  clear hi hz0 hz1 hz2
  go_enter Try.func3, Try.ntmps3
  go_wp2_with (go_at_call 5; refine (boundM_yes _ _ _ _ _ hbd).mono ?_; rintro e w' ⟨rfl, rfl⟩)
  refine CL.out.mono ?_
  rintro e w1 ⟨rfl, ho1, hb1⟩
  clear CL
  have O1 := hide ho1
  have B1 := hide hb1
  have s1 : w.heap.size < w1.heap.size := (own_lt ho1).2
  clear ho1 hb1
  go_wp2_with (first
    | (at_make; refine wpList_make_full _ rfl _ _ 23 rfl w.heap.size 22 i0 (.float .f64 0) 1 Try.underlying23 HI.out HI0.out HI1.out _ _ _ _ n rfl rfl rfl rfl ?b1 ?b2 (by omega) ?_)
    | fail)
  case b1 => rw [HI2.out]; omega
  case b2 => unfold maxLen; omega
  intro w2 hown hgrow
  have W2 := hide (made_FL hown)
  have P2 := hide (O1.out.kept hgrow (.inr (by simp [Value.ownBlock])))
  have B2 : Hid (Below w.heap.size w w2) := B1.out.grown hgrow (by omega) (fun q h => by cases h)
  have s2 : w1.heap.size < w2.heap.size := (own_lt W2.out).2
  clear hown hgrow O1 B1
  go_wp2_with fail
  refine (zz_any w.heap.size w.heap.size n n t zs w2 HZ.out hn P2.out).mono ?_
  rintro e w3 ⟨rfl, L3⟩
  obtain ⟨lp, lp1, lp2, lp3⟩ := L3.row
  have HP1 := hide lp1
  have HP2 := hide lp2
  have HP3 := hide lp3
  have W3 := hide (own_other W2.out L3.grown (by omega))
  have B3 : Hid (Below w.heap.size w w3) := B2.out.grown L3.grown (by omega) (fun q h => by cases h; omega)
  have s3 : w2.heap.size ≤ w3.heap.size := L3.grown.size
  clear L3 lp1 lp2 lp3 W2 P2 B2
  go_wp2_with fail
  refine (zz_any w.heap.size w1.heap.size n n t (List.replicate n 0) w3 (by simp) hn W3.out).mono ?_
  rintro e w4 ⟨rfl, L4⟩
  have SP : Hid (Shows w4 w.heap.size n t) := shows_of HP1.out (own_other HP2.out L4.grown (by omega)) HP3.out
  have FR : Hid (RowF w.heap.size w1.heap.size n n (isL t) w4) := L4.row
  have SF : Hid (Shows w4 w1.heap.size n t) := by
    obtain ⟨l, l1, l2, l3⟩ := L4.row
    exact shows_of l1 l2 l3
  have B4 : Hid (Below w.heap.size w w4) := B3.out.grown L4.grown (by omega) (fun q h => by cases h; omega)
  have s4 : w3.heap.size ≤ w4.heap.size := L4.grown.size
  clear L4 HP1 HP2 HP3 W3 B3 HZ
  go_wp2
  go_loopw [7] (fun i wr => ∃ k : Nat, k ≤ n ∧ i = .int .i64 k ∧ ∃ m, wr = w4.drewN m) (fun i _ => n - (intOf i).toNat)
  case atStart => exact ⟨0, Nat.zero_le _, rfl, 0, rfl⟩
  case round =>
  obtain ⟨k, hk, rfl, m, rfl⟩ := hrel
  by_cases hlt : k < n
  · obtain ⟨e, ce, he⟩ := SP.out k hlt
    obtain ⟨f, cf, hf⟩ := SF.out k hlt
    have y1 : (k : Int) < (n : Int) := by omega
    have hsame : sameB e f = true := same_cn (he.trans hf.symm)
    clear he hf
    go_wp2
    go_region_with (go_at_call 8; refine (same_any _ _ _).mono ?_; rintro e w' ⟨rfl, rfl⟩)
    all_goals
      go_wp2
      go_roundw
      case rel => exact ⟨k + 1, by omega, by go_num, _, rfl⟩
      case measure => simp [intOf]; omega
  obtain rfl : n = k := by omega
  clear SP SF
  have FR2 : Hid (RowF w.heap.size w1.heap.size n n (isL t) (w4.drewN m)) := FR.out
  have B5 : Hid (Below w.heap.size w (w4.drewN m)) := below_drewN B4.out m
  have s5 : w4.heap.size = (w4.drewN m).heap.size := rfl
  obtain ⟨w5, hw5⟩ : ∃ w5, w4.drewN m = w5 := ⟨_, rfl⟩
  rw [hw5] at FR2 B5 s5 ⊢
  clear FR B4 hw5
  cases hB : inB t with
  | false =>
    have R1 := geq_in hB
    clear hB
    go_wp2
    go_ret
    exact ⟨rfl, B5.out⟩
  | true =>
  have R1 := geq_in hB
  cases hC : inC t with
  | false =>
    have R2 := leq_in hC
    clear hB hC
    go_wp2
    go_ret
    exact ⟨rfl, B5.out⟩
  | true =>
  have R2 := leq_in hC
  have FT := hide (between hB hC)
  clear hB hC
  go_wp2_with (first
    | (at_make; refine wpList_make_full _ rfl _ _ 23 rfl w.heap.size 22 i0 (.float .f64 0) 1 Try.underlying23 HI.out HI0.out HI1.out _ _ _ _ n rfl rfl rfl rfl ?b1 ?b2 (by omega) ?_)
    | fail)
  case b1 => rw [HI2.out]; omega
  case b2 => unfold maxLen; omega
  intro w6 hown hgrow
  have T6 : Hid (RowF w.heap.size w5.heap.size n 0 (isT t) w6) := ⟨_, by simp, made_FL hown, fun i hi => absurd hi (Nat.not_lt_zero _)⟩
  have F6 := hide (FR2.out.grown hgrow)
  have B6 : Hid (Below w.heap.size w w6) := B5.out.grown hgrow (by omega) (fun q h => by cases h)
  have s6 : w5.heap.size < w6.heap.size := (own_lt hown).2
  clear hown hgrow FR2 B5
  go_wp2_with (first
    | (at_make; refine wpList_make_full _ rfl _ _ 23 rfl w.heap.size 22 i0 (.float .f64 0) 1 Try.underlying23 HI.out HI0.out HI1.out _ _ _ _ n rfl rfl rfl rfl ?b1 ?b2 (by omega) ?_)
    | fail)
  case b1 => rw [HI2.out]; omega
  case b2 => unfold maxLen; omega
  intro w7 hown hgrow
  have TB : Hid (Tab w w1.heap.size w5.heap.size w6.heap.size n t 0 w7) := ⟨F6.out.grown hgrow, T6.out.grown hgrow, ⟨_, by simp, made_FL hown, fun i hi => absurd hi (Nat.not_lt_zero _)⟩, B6.out.grown hgrow (by omega) (fun q h => by cases h), by omega, by omega, by omega⟩
  clear hown hgrow F6 B6 T6 HI HI0 HI1 HI2 R1 R2
  obtain ⟨gf, hgf⟩ : ∃ gf, w1.heap.size = gf := ⟨_, rfl⟩
  obtain ⟨gt, hgt⟩ : ∃ gt, w5.heap.size = gt := ⟨_, rfl⟩
  obtain ⟨ga, hga⟩ : ∃ ga, w6.heap.size = ga := ⟨_, rfl⟩
  rw [hgf, hgt, hga] at TB
  rw [hgf, hgt, hga]
  clear hgf hgt hga s1 s2 s3 s4 s5 s6
  go_wp2
  go_loopw [10] (fun i wr => ∃ k : Nat, k ≤ n ∧ i = .int .i64 k ∧ Tab w gf gt ga n t k wr) (fun i _ => n - (intOf i).toNat)
  case atStart => exact ⟨0, Nat.zero_le _, rfl, TB.out⟩
  case round =>
  clear TB
  obtain ⟨k, hk, rfl, hT⟩ := hrel
  have HT := hide hT
  by_cases hlt : k < n
  · obtain ⟨xk, hct, _⟩ := hT.tc.cell k hlt
    have hft := hT.tc.frozen k
    obtain ⟨yk, hca, _⟩ := hT.ac.cell k hlt
    have hma : ∀ v, (wr.setCell ⟨gt, k, none⟩ v).cell? ⟨ga, k, none⟩ = some (.float .f64 yk) := fun v => (hT.mid_cell k k v).trans hca
    have hmf : ∀ v, (wr.setCell ⟨gt, k, none⟩ v).frozen? ⟨ga, k, none⟩ = false := fun v => hT.frz v k k
    by_cases h0 : k = 0
    · subst h0
      clear hT
      go_wp2
      go_roundw
      case rel => exact ⟨1, by omega, by go_num, HT.out.next hlt (x := 4607182418800017408) (y := 4607182418800017408) rfl rfl⟩
      case measure => simp [intOf]; omega
    · obtain ⟨ya, hcy, hya⟩ := hT.ac.cell (k - 1) (by omega)
      have hmy : ∀ v, (wr.setCell ⟨gt, k, none⟩ v).cell? ⟨ga, k - 1, none⟩ = some (.float .f64 ya) := fun v => (hT.mid_cell k (k - 1) v).trans hcy
      obtain ⟨q1, q2, v1, v2, hq⟩ := words_A (by omega) (by omega) (hya (by omega))
      have hN1 := flI21 k (by omega)
      have hN2 := flI2 k
      obtain ⟨N1, e1⟩ : ∃ N, flN (2 * k - 1) = N := ⟨_, rfl⟩
      obtain ⟨N2, e2⟩ : ∃ N, flN (2 * k) = N := ⟨_, rfl⟩
      rw [e1] at hN1 v1
      rw [e2] at hN2 v2
      have R107 : ∀ w, (binOp .mul 22 (.float .f64 ya) (.float .f64 N1)).run Try.prog w = .ok (.float .f64 q1) w := fun w => run_float_arith w .mul 22 .f64 _ _ _ v1
      have R111 : ∀ w, (binOp .quo 22 (.float .f64 q1) (.float .f64 N2)).run Try.prog w = .ok (.float .f64 q2) w := fun w => run_float_arith w .quo 22 .f64 _ _ _ v2
      have HQ := hide hq
      have y1 : (k : Int) < (n : Int) := by omega
      have y2 : (k : Int) - 1 < (n : Int) := by omega
      have y3 : 0 ≤ (k : Int) - 1 := by omega
      have e0 : ((k : Int) == 0) = false := by simpa using h0
      clear hya hq e1 e2 v1 v2
      by_cases h1 : k = 1
      · subst h1
        have hN1' : floatOfInt .f64 1 = N1 := hN1
        have hN2' : floatOfInt .f64 2 = N2 := hN2
        clear hT
        go_wp2
        go_roundw
        case rel => exact ⟨2, by omega, by go_num, HT.out.next hlt (x := t) rfl HQ.out⟩
        case measure => simp [intOf]; omega
      · have h2 : 2 ≤ k := by omega
        have e1 : ((k : Int) == 1) = false := by simp; omega
        obtain ⟨x1, hc1, hx1⟩ := hT.tc.cell (k - 1) (by omega)
        obtain ⟨x0, hc0, hx0⟩ := hT.tc.cell (k - 2) (by omega)
        obtain ⟨r1, r2, r, v1, v2, v3, hr⟩ := words_T FT.out h2 (by omega) (hx1 (by omega)) (hx0 (by omega))
        have R82 : ∀ w, (binOp .mul 22 (.float .f64 4611686018427387904) (.float .f64 t)).run Try.prog w = .ok (.float .f64 r1) w := fun w => run_float_arith w .mul 22 .f64 _ _ _ v1
        have R88 : ∀ w, (binOp .mul 22 (.float .f64 r1) (.float .f64 x1)).run Try.prog w = .ok (.float .f64 r2) w := fun w => run_float_arith w .mul 22 .f64 _ _ _ v2
        have R94 : ∀ w, (binOp .sub 22 (.float .f64 r2) (.float .f64 x0)).run Try.prog w = .ok (.float .f64 r) w := fun w => run_float_arith w .sub 22 .f64 _ _ _ v3
        have HR := hide hr
        have y4 : (k : Int) - 2 < (n : Int) := by omega
        have y5 : 0 ≤ (k : Int) - 2 := by omega
        clear hT hx1 hx0 v1 v2 v3 hr
        go_wp2
        go_region
        all_goals
          go_wp2
          go_roundw
          case rel => exact ⟨k + 1, by omega, by go_num, by (repeat apply Tab.drew); exact HT.out.next hlt HR.out HQ.out⟩
          case measure => simp [intOf]; omega
  obtain rfl : n = k := by omega
  clear hT
  go_wp2
  go_loopw [11, 12, 13, 14, 15] (fun i _ _ _ _ wr => ∃ k : Nat, k ≤ n ∧ i = .int .i64 k ∧ Tab w gf gt ga n t n wr) (fun i _ _ _ _ _ => n - (intOf i).toNat)
  case atStart => exact ⟨0, Nat.zero_le _, rfl, HT.out⟩
  case round =>
  clear HT
  obtain ⟨wo, rfl⟩ : ∃ wo : World, wo = wr := ⟨_, rfl⟩
  obtain ⟨k, hk, rfl, hT⟩ := hrel
  have HT := hide hT
  clear hT
  by_cases hlt : k < n
  · have y0 : (k : Int) < (n : Int) := by omega
    go_wp2
    go_loopw [12, 13, 14] (fun md i _ wr => ∃ j s : Nat, j ≤ k + 1 ∧ i = .int .i64 j ∧ md = .float .f64 s ∧ mdF t k j = some s ∧ Tab w gf gt ga n t n wr) (fun _ i _ _ => k + 1 - (intOf i).toNat)
    case atStart => exact ⟨0, 0, Nat.zero_le _, rfl, rfl, rfl, HT.out⟩
    case round =>
    clear HT
    obtain ⟨j, s, hj, rfl, rfl, hs, hT⟩ := hrel
    have HT := hide hT
    have HS := hide hs
    by_cases hjk : j ≤ k
    · obtain ⟨E, hE⟩ : ∃ E : Nat, E = k - j := ⟨_, rfl⟩
      have hEi : (k : Int) - (j : Int) = (E : Int) := by omega
      obtain ⟨D, hD⟩ : ∃ D : Nat, D = dd k j := ⟨_, rfl⟩
      have hDn : D ≤ k := by rw [hD]; exact dd_le hjk
      have hDv : (D : Int) = ((k : Int) - 2 * (j : Int)).natAbs := by rw [hD]; rfl
      have hEn : E ≤ k := by omega
      obtain ⟨a1, c1, i1⟩ := hT.ac.cell j (by omega)
      obtain ⟨a2, c2, i2⟩ := hT.ac.cell E (by omega)
      obtain ⟨z, c3, i3⟩ := hT.tc.cell D (by omega)
      obtain ⟨r1, r2, s', v1, v2, v3, hs'⟩ := words_M FT.out (by omega) hjk hs (i1 (by omega)) (hE ▸ i2 (by omega)) (hD ▸ i3 (by omega))
      have R142 : ∀ w, (binOp .mul 22 (.float .f64 a1) (.float .f64 a2)).run Try.prog w = .ok (.float .f64 r1) w := fun w => run_float_arith w .mul 22 .f64 _ _ _ v1
      have R147 : ∀ w, (binOp .mul 22 (.float .f64 r1) (.float .f64 z)).run Try.prog w = .ok (.float .f64 r2) w := fun w => run_float_arith w .mul 22 .f64 _ _ _ v2
      have R148 : ∀ w, (binOp .add 22 (.float .f64 s) (.float .f64 r2)).run Try.prog w = .ok (.float .f64 s') w := fun w => run_float_arith w .add 22 .f64 _ _ _ v3
      have HS' := hide hs'
      have z1 : (j : Int) ≤ (k : Int) := by omega
      have z2 : (j : Int) < (n : Int) := by omega
      have z3 : (E : Int) < (n : Int) := by omega
      have z4 : (D : Int) < (n : Int) := by omega
      clear hT hs i1 i2 i3 v1 v2 v3 hs' hD hE HS
      by_cases hneg : k < 2 * j
      · have hDi : (k : Int) - 2 * (j : Int) = -(D : Int) := by omega
        have z5 : -(D : Int) < 0 := by omega
        clear hDv
        go_wp2
        go_region
        all_goals
          go_wp2
          go_roundw
          case rel => exact ⟨j + 1, s', by omega, by go_num, rfl, HS'.out, by (repeat apply Tab.drew); exact HT.out⟩
          case measure => simp [intOf]; omega
      · have hDi : (k : Int) - 2 * (j : Int) = (D : Int) := by omega
        have z5 : ¬ (D : Int) < 0 := by omega
        clear hDv
        go_wp2
        go_region
        all_goals
          go_wp2
          go_roundw
          case rel => exact ⟨j + 1, s', by omega, by go_num, rfl, HS'.out, by (repeat apply Tab.drew); exact HT.out⟩
          case measure => simp [intOf]; omega
    have hjk1 : j = k + 1 := by omega
    rw [hjk1] at hs
    obtain ⟨e, ce, he⟩ := hT.fr.cell k hlt
    obtain ⟨d, p1, p2, p3, v0, v1, v2, v3, hgt⟩ := words_L FT.out (by omega) (he hlt) hs
    have hK := flI1 k
    obtain ⟨K, hK'⟩ : ∃ K, flN (k + 1) = K := ⟨_, rfl⟩
    rw [hK'] at hK v1 v2
    have R157 : ∀ w, (binOp .sub 22 (.float .f64 e) (.float .f64 s)).run Try.prog w = .ok (.float .f64 d) w := fun w => run_float_arith w .sub 22 .f64 _ _ _ v0
    have R161 : ∀ w, (binOp .mul 22 (.float .f64 K) (.float .f64 K)).run Try.prog w = .ok (.float .f64 p1) w := fun w => run_float_arith w .mul 22 .f64 _ _ _ v1
    have R163 : ∀ w, (binOp .mul 22 (.float .f64 p1) (.float .f64 K)).run Try.prog w = .ok (.float .f64 p2) w := fun w => run_float_arith w .mul 22 .f64 _ _ _ v2
    have R164 : ∀ w, (binOp .mul 22 (.float .f64 p2) (.float .f64 4409024035195715584)).run Try.prog w = .ok (.float .f64 p3) w := fun w => run_float_arith w .mul 22 .f64 _ _ _ v3
    have z1 : ¬ (j : Int) ≤ (k : Int) := by omega
    clear hT hs he v0 v1 v2 v3 HS hK' hjk1
    go_wp2_with (go_at_call 9; refine (abs_any _ _).mono ?_; rintro e w' ⟨rfl, rfl⟩)
    go_roundw
    case rel => exact ⟨k + 1, by omega, by go_num, HT.out⟩
    case measure => simp [intOf]; omega
  go_wp2
  go_ret
  exact ⟨rfl, HT.out.bel⟩

set_option maxRecDepth 10000 in
set_option maxHeartbeats 4000000 in
theorem lawM_nil (t : Nat) (w : World) :
    Calls Try.prog 3 #[.float .f64 t, .slice none 0 0] w fun e w' => e = .returned (.bool true) ∧ Below w.heap.size w w' := by
  obtain ⟨i0, hi, hz0, hz1, hz2⟩ := info_parts Try.info22
  have HI := hide hi
  have HI0 := hide hz0
  have HI1 := hide hz1
  have HI2 := hide hz2
  clear hi hz0 hz1 hz2
  go_enter Try.func3, Try.ntmps3
  go_wp2_with (go_at_call 5; refine (boundM_yes _ _ _ _ _ (Nat.zero_le _)).mono ?_; rintro e w' ⟨rfl, rfl⟩)
  refine (clone_nil w).mono ?_
  rintro e w' ⟨rfl, rfl⟩
  go_wp2_with (first
    | (at_make; refine wpList_make_full _ rfl _ _ 23 rfl w.heap.size 22 i0 (.float .f64 0) 1 Try.underlying23 HI.out HI0.out HI1.out _ _ _ _ 0 rfl rfl rfl rfl ?b1 ?b2 (Nat.le_refl _) ?_)
    | fail)
  case b1 => omega
  case b2 => unfold maxLen; omega
  intro w2 hown hgrow
  have W2 := hide (made_FL hown)
  have B2 : Hid (Below w.heap.size w w2) := (Below.refl _ _).grown hgrow (Nat.le_refl _) (fun q h => by cases h)
  have s2 : w.heap.size < w2.heap.size := (own_lt W2.out).2
  clear hown hgrow
  go_wp2_with fail
  refine (zz_nil _ w2).mono ?_
  rintro e w' ⟨rfl, rfl⟩
  go_wp2_with fail
  refine (zz_any w.heap.size w.heap.size 0 0 t (List.replicate 0 0) w2 (by simp) (by omega) W2.out).mono ?_
  rintro e w4 ⟨rfl, L4⟩
  have B4 : Hid (Below w.heap.size w w4) := B2.out.grown L4.grown (by omega) (fun q h => by cases h; omega)
  have s4 : w2.heap.size ≤ w4.heap.size := L4.grown.size
  clear L4 W2 B2
  go_wp2
  refine wp_loop_rounds 1 ?_
  rw [rounds_succ]
  cases hB : inB t with
  | false =>
    have R1 := geq_in hB
    clear hB
    go_wp2
    go_ret
    exact ⟨rfl, B4.out⟩
  | true =>
  have R1 := geq_in hB
  cases hC : inC t with
  | false =>
    have R2 := leq_in hC
    clear hB hC
    go_wp2
    go_ret
    exact ⟨rfl, B4.out⟩
  | true =>
  have R2 := leq_in hC
  go_wp2_with (first
    | (at_make; refine wpList_make_full _ rfl _ _ 23 rfl w.heap.size 22 i0 (.float .f64 0) 1 Try.underlying23 HI.out HI0.out HI1.out _ _ _ _ 0 rfl rfl rfl rfl ?b1 ?b2 (by omega) ?_)
    | fail)
  case b1 => omega
  case b2 => unfold maxLen; omega
  intro w6 hown hgrow
  have B6 : Hid (Below w.heap.size w w6) := B4.out.grown hgrow (by omega) (fun q h => by cases h)
  have s6 : w4.heap.size ≤ w6.heap.size := hgrow.size
  clear hown hgrow B4
  go_wp2_with (first
    | (at_make; refine wpList_make_full _ rfl _ _ 23 rfl w.heap.size 22 i0 (.float .f64 0) 1 Try.underlying23 HI.out HI0.out HI1.out _ _ _ _ 0 rfl rfl rfl rfl ?b1 ?b2 (by omega) ?_)
    | fail)
  case b1 => omega
  case b2 => unfold maxLen; omega
  intro w7 hown hgrow
  have B7 : Hid (Below w.heap.size w w7) := B6.out.grown hgrow (by omega) (fun q h => by cases h)
  clear hown hgrow B6
  go_wp2
  refine wp_loop_rounds 1 ?_
  rw [rounds_succ]
  go_wp2
  refine wp_loop_rounds 1 ?_
  rw [rounds_succ]
  go_wp2
  go_ret
  exact ⟨rfl, B7.out⟩
end Go.Proofs.Qxb6621625a
