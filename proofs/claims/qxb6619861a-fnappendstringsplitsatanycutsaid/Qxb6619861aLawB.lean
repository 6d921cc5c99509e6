/- THE SECOND LAW's WALK. -/
import Derived.Test.Qxb6619861aLawA
namespace Go.Proofs.Qxb6619861a
open Go.ChangeShapes Go.WideShapes Go.ChangeAt Go.RowKit

theorem sb_append (a b : ByteArray) : sb (a ++ b) = sb a ++ sb b := by simp [sb]

/-- What 'left' without its last byte is. -/
def cutL (zs A : List Int) : List Int := zs ++ 34 :: body A
theorem cutL_len (zs A : List Int) : (cutL zs A).length = zs.length + (body A).length + 1 := by simp [cutL]; omega
theorem left_eq (zs A : List Int) : zs ++ lit A = cutL zs A ++ [34] := by simp [cutL, lit]
theorem whole_eq (zs A B : List Int) : zs ++ lit (A ++ B) = cutL zs A ++ (body B ++ [34]) := by simp [cutL, lit, body_append]
theorem right_eq (B : List Int) : lit B = 34 :: (body B ++ [34]) := rfl

theorem whole_left (zs A B : List Int) (i : Nat) (h : i < (cutL zs A).length) : (zs ++ lit (A ++ B)).getD i 0 = (zs ++ lit A).getD i 0 := by
  rw [whole_eq, left_eq, getD_append_left' _ _ _ h, getD_append_left' _ _ _ h]
theorem whole_right (zs A B : List Int) (j : Nat) : (zs ++ lit (A ++ B)).getD ((cutL zs A).length + j) 0 = (lit B).getD (j + 1) 0 := by
  rw [whole_eq, getD_append_right', right_eq]
  simp [List.getD]
theorem left_last (zs A : List Int) : (zs ++ lit A).getD ((cutL zs A).length) 0 = 34 := by
  rw [left_eq]
  exact getD_append_right' (cutL zs A) [34] 0

/-- Too long: nothing is looked at. -/
theorem lawB_long (x : Option Addr) (n c : Nat) (a b : ByteArray) (w : World) (hn : n ≤ maxLen) (ha : a.size ≤ maxLen) (hb : b.size ≤ maxLen) (h : ¬ (n ≤ 262144 ∧ a.size ≤ 262144 ∧ b.size ≤ 262144)) :
    Calls Try.prog 4 #[.slice x n c, .string a, .string b] w fun e w' => e = .returned (.bool true) ∧ Below w.heap.size w w' := by
  by_cases h1 : n + a.size + b.size ≤ 1048576
  · by_cases h2 : 262144 < n
    · go_enter Try.func4, Try.ntmps4
      go_wp2_with (go_at_call 10; refine (bound3_yes _ _ _ _ _ _ h1).mono ?_; rintro e w' ⟨rfl, rfl⟩)
      go_ret
      exact ⟨rfl, Below.refl _ _⟩
    by_cases h3 : 262144 < a.size
    · go_enter Try.func4, Try.ntmps4
      go_wp2_with (go_at_call 10; refine (bound3_yes _ _ _ _ _ _ h1).mono ?_; rintro e w' ⟨rfl, rfl⟩)
      go_ret
      exact ⟨rfl, Below.refl _ _⟩
    · have h4 : 262144 < b.size := by omega
      go_enter Try.func4, Try.ntmps4
      go_wp2_with (go_at_call 10; refine (bound3_yes _ _ _ _ _ _ h1).mono ?_; rintro e w' ⟨rfl, rfl⟩)
      go_ret
      exact ⟨rfl, Below.refl _ _⟩
  · go_enter Try.func4, Try.ntmps4
    go_wp2_with (go_at_call 10; refine (bound3_no _ _ _ _ _ _ hn ha hb h1).mono ?_; rintro e w' ⟨rfl, rfl⟩)
    go_ret
    exact ⟨rfl, Below.refl _ _⟩

/-- A row of ours behind an appendString onto another one. -/
theorem own_app {w w' : World} {base e size : Nat} {v v0 : Value} {n : Nat} {xs : List Value} (h : w.ownsRow base e size v n xs) (hg : w.grownBy w' v0.ownBlock) (hne : ∀ g, v.ownBlock = some g → v0.ownBlock ≠ some g) : w'.ownsRow base e size v n xs := by
  refine h.kept hg ?_
  cases hv : v.ownBlock with
  | none => exact .inl rfl
  | some g => exact .inr fun e => hne g hv e.symm

set_option maxRecDepth 10000 in
set_option maxHeartbeats 2000000 in
/-- dst is not nil. -/
theorem lawB_row (x : Option Addr) (cap : Nat) (zs : List Int) (a b : ByteArray) (w : World) (hn : zs.length ≤ 262144) (ha : a.size ≤ 262144) (hb : b.size ≤ 262144)
    (hcl : Calls Try.prog 6 #[.slice x zs.length cap] w fun e w' => e = .returned (.slice (some ⟨w.heap.size, 0, none⟩) zs.length zs.length) ∧
      w'.ownsRow w.heap.size 5 1 (.slice (some ⟨w.heap.size, 0, none⟩) zs.length zs.length) zs.length (zs.map (Value.int .u8)) ∧ Below w.heap.size w w') :
    Calls Try.prog 4 #[.slice x zs.length cap, .string a, .string b] w fun e w' => e = .returned (.bool true) ∧ Below w.heap.size w w' := by
  have CL := hide hcl
  clear hcl
  have hbd : zs.length + a.size + b.size ≤ 1048576 := by omega
  have d1 : decide ((262144 : Int) < (zs.length : Int)) = false := decide_eq_false (by omega)
  have d2 : decide ((262144 : Int) < (a.size : Int)) = false := decide_eq_false (by omega)
  have d3 : decide ((262144 : Int) < (b.size : Int)) = false := decide_eq_false (by omega)
  have hab : (a ++ b).size = a.size + b.size := by simp
  have HAB := hide hab
  clear hab
  go_enter Try.func4, Try.ntmps4
  go_wp2_with (go_at_call 10; refine (bound3_yes _ _ _ _ _ _ hbd).mono ?_; rintro e w' ⟨rfl, rfl⟩)
  refine CL.out.mono ?_
  rintro e w1 ⟨rfl, ho1, hb1⟩
  clear CL
  have O1 := hide ho1
  have B1 := hide hb1
  have s1 : w.heap.size < w1.heap.size := (own_lt ho1).2
  clear ho1 hb1
  go_wp2_with fail
  refine (clone_row w.heap.size 0 zs.length zs.length zs w1 rfl (by omega) (fun i hi => by rw [Nat.zero_add]; exact own_cells O1.out i hi) (fun _ => s1)).mono ?_
  rintro e w2 ⟨rfl, ho2, hb2⟩
  have O2 := hide ho2
  have P2 := hide (own_below O1.out hb2)
  have B2 : Hid (Below w.heap.size w w2) := B1.out.trans (hb2.mono (by omega))
  have s2 : w1.heap.size < w2.heap.size := (own_lt ho2).2
  clear ho2 hb2 O1 B1
  go_wp2_with fail
  refine (clone_row w.heap.size 0 zs.length zs.length zs w2 rfl (by omega) (fun i hi => by rw [Nat.zero_add]; exact own_cells P2.out i hi) (fun _ => by omega)).mono ?_
  rintro e w3 ⟨rfl, ho3, hb3⟩
  have O3 := hide ho3
  have P3 := hide (own_below P2.out hb3)
  have W3 := hide (own_below O2.out hb3)
  have B3 : Hid (Below w.heap.size w w3) := B2.out.trans (hb3.mono (by omega))
  have s3 : w2.heap.size < w3.heap.size := (own_lt ho3).2
  clear ho3 hb3 O2 P2 B2
  go_wp2_with fail
  refine (zz_any w2.heap.size _ zs (a ++ b) w3 (by rw [HAB.out]; omega) (by omega) O3.out (by omega)).mono ?_
  rintro e w4 ⟨vW, rfl, I4⟩
  have H4 := hide I4.own
  have P4 := hide (own_app P3.out I4.grown (fun g h e => by simp [Value.ownBlock] at h e; omega))
  have W4 := hide (own_app W3.out I4.grown (fun g h e => by simp [Value.ownBlock] at h e; omega))
  have B4 : Hid (Below w.heap.size w w4) := B3.out.grown I4.grown (by omega) (fun q h => by simp [Value.ownBlock] at h; omega)
  have s4 : w3.heap.size ≤ w4.heap.size := I4.grown.size
  clear I4 O3 P3 W3 B3
  go_wp2_with fail
  refine (clone_row w.heap.size 0 zs.length zs.length zs w4 rfl (by omega) (fun i hi => by rw [Nat.zero_add]; exact own_cells P4.out i hi) (fun _ => by omega)).mono ?_
  rintro e w5 ⟨rfl, ho5, hb5⟩
  have O5 := hide ho5
  have H5 := hide (own_below H4.out hb5)
  have W5 := hide (own_below W4.out hb5)
  have B5 : Hid (Below w.heap.size w w5) := B4.out.trans (hb5.mono (by omega))
  have s5 : w4.heap.size < w5.heap.size := (own_lt ho5).2
  have l4 := H4.out.lt
  clear ho5 hb5 H4 P4 W4 B4
  have L4 := hide l4
  clear l4
  go_wp2_with fail
  refine (zz_any w4.heap.size _ zs a w5 (by omega) (by omega) O5.out (by omega)).mono ?_
  rintro e w6 ⟨vL, rfl, I6⟩
  have F6 := hide I6.own
  have H6 := hide (own_app H5.out I6.grown (fun g h e => by have := L4.out g h; simp [Value.ownBlock] at e; omega))
  have W6 := hide (own_app W5.out I6.grown (fun g h e => by simp [Value.ownBlock] at h e; omega))
  have B6 : Hid (Below w.heap.size w w6) := B5.out.grown I6.grown (by omega) (fun q h => by simp [Value.ownBlock] at h; omega)
  have s6 : w5.heap.size ≤ w6.heap.size := I6.grown.size
  clear I6 O5 H5 W5 B5 L4
  go_wp2_with fail
  refine (zz_any w6.heap.size (.slice none 0 0) [] b w6 (by omega) (by simp) (World.ownsRow_nil _ _ _ _) (Nat.le_refl _)).mono ?_
  rintro e w7 ⟨vR, rfl, I7⟩
  have own7 := I7.own
  have F7 := own_app F6.out I7.grown (fun g h e => by cases e)
  have H7 := own_app H6.out I7.grown (fun g h e => by cases e)
  have W7 := own_cells (own_app W6.out I7.grown (fun g h e => by cases e))
  have B7 : Hid (Below w.heap.size w w7) := B6.out.grown I7.grown (by omega) (fun q h => by cases h)
  clear I7 F6 H6 W6 B6
  obtain ⟨NB, hNB⟩ : ∃ N, (body (sb b)).length = N := ⟨_, rfl⟩
  obtain ⟨K, hK⟩ : ∃ N, (cutL zs (sb a)).length = N := ⟨_, rfl⟩
  have lA : zs.length + 1 ≤ K ∧ K ≤ zs.length + 6 * a.size + 1 := by rw [← hK, cutL_len]; have := body_len (sb a); rw [sb_length] at this; omega
  have lB : NB ≤ 6 * b.size := by rw [← hNB]; have := body_len (sb b); rw [sb_length] at this; omega
  have e7 : ([] ++ lit (sb b) : List Int).length = NB + 2 := by rw [List.nil_append, lit_len, hNB]
  have eF : (zs ++ lit (sb a) : List Int).length = K + 1 := by rw [left_eq, List.length_append, hK]; rfl
  have eH : (zs ++ lit (sb (a ++ b)) : List Int).length = K + (NB + 1) := by rw [sb_append, whole_eq, List.length_append, hK, List.length_append, hNB]; rfl
  rw [e7] at own7
  rw [eF] at F7
  rw [eH] at H7
  obtain ⟨gR, capR, hvR, hleR, hmR⟩ := own_form own7 (by omega)
  obtain ⟨gL, capL, hvL, hleL, hmL⟩ := own_form F7 (by omega)
  obtain ⟨gW, capW, hvW, hleW, hmW⟩ := own_form H7 (by omega)
  rw [hvR] at own7 ⊢
  rw [hvL] at F7 ⊢
  rw [hvW] at H7 ⊢
  have CR := own_cells own7
  have CLf := own_cells F7
  have CW := own_cells H7
  have ltR := (own_lt own7).2
  have ltL := (own_lt F7).2
  have ltW := (own_lt H7).2
  have fL : w7.cell? ⟨gL, K, none⟩ = some (.int .u8 34) := (CLf _ (by omega)).trans (by rw [← hK, left_last])
  have KW : Hid (∀ i, i < K → w7.cell? ⟨gW, i, none⟩ = some (.int .u8 ((zs ++ lit (sb a)).getD i 0))) := fun i hi => (CW i (by omega)).trans (by rw [sb_append, whole_left _ _ _ _ (by omega)])
  have KR : Hid (∀ j, j < NB + 1 → w7.cell? ⟨gW, K + j, none⟩ = some (.int .u8 ((lit (sb b)).getD (j + 1) 0))) := fun j hj => (CW _ (by omega)).trans (by rw [sb_append, ← hK, whole_right])
  rw [List.nil_append] at CR
  have KL := hide CLf
  have KB := hide CR
  have HB := hide (show (lit (sb b)).length = NB + 2 by rw [lit_len, hNB])
  unfold maxLen at hmR hmL hmW
  clear own7 F7 H7 hvR hvL hvW e7 eF eH CR CLf CW hNB hK HAB
  have d4 : decide ((K : Int) + 1 < (zs.length : Int) + 2) = false := decide_eq_false (by omega)
  have d5 : decide ((NB : Int) + 2 < 2) = false := decide_eq_false (by omega)
  have KZ : Hid (∀ i, i < zs.length → w7.cell? ⟨gL, i, none⟩ = some (.int .u8 (zs.getD i 0))) := fun i hi => (KL.out i (by omega)).trans (by rw [getD_append_left' _ _ _ hi])
  have KV := hide W7
  clear W7
  go_wp2
  go_loopw [11] (fun i wr => ∃ k : Nat, k ≤ zs.length ∧ i = .int .i64 k ∧ ∃ n, wr = w7.drewN n) (fun i _ => zs.length - (intOf i).toNat)
  case atStart => exact ⟨0, Nat.zero_le _, rfl, 0, rfl⟩
  case round =>
  obtain ⟨k, hk, rfl, n, rfl⟩ := hrel
  by_cases hlt : k < zs.length
  · obtain ⟨z, hz⟩ : ∃ z, zs.getD k 0 = z := ⟨_, rfl⟩
    have x2 : w7.cell? ⟨w1.heap.size, k, none⟩ = some (.int .u8 z) := hz ▸ KV.out k hlt
    have x3 : w7.cell? ⟨gL, k, none⟩ = some (.int .u8 z) := hz ▸ KZ.out k hlt
    have y1 : (k : Int) < (zs.length : Int) := by omega
    have y2 : (k : Int) < (K : Int) + 1 := by omega
    clear hz fL
    go_wp2
    go_quiet (fail)
    go_wp2
    go_roundw
    case rel => exact ⟨k + 1, by omega, by go_num, _, rfl⟩
    case measure => simp [intOf]; omega
  obtain rfl : k = zs.length := by omega
  clear KV KZ
  go_wp2_with fail
  refine (decode_any gR 0 (NB + 2) capR (sb b) (w7.drewN n) HB.out (sb_bounds b) (by omega) (by exact ltR) (fun i hi => by rw [Nat.zero_add]; exact KB.out i hi)).mono ?_
  rintro e w8 ⟨cp, rfl, ho8, hb8⟩
  have hsz : (sb b).length = b.size := sb_length b
  rw [hsz] at ho8
  have c8 := hide (own_cells ho8)
  have B8 : Hid (Below w.heap.size w w8) := (below_drewN B7.out n).trans (hb8.mono (by show w.heap.size ≤ w7.heap.size; exact B7.out.size))
  have K8 : Hid (∀ g i, g < w7.heap.size → w8.cell? ⟨g, i, none⟩ = w7.cell? ⟨g, i, none⟩) := fun g i hg => hb8.cell (p := ⟨g, i, none⟩) hg
  clear ho8 hb8 B7 fL
  go_wp2_with fail
  refine (same_any w7.heap.size 0 cp b w8 (by omega) (fun i hi => by rw [Nat.zero_add]; exact c8.out i hi)).mono ?_
  rintro e w9 ⟨rfl, m, rfl⟩
  have x1 : Hid (∀ i, i < K → w8.cell? ⟨gW, i, none⟩ = some (.int .u8 ((zs ++ lit (sb a)).getD i 0))) := fun i hi => (K8.out gW i ltW).trans (KW.out i hi)
  have x2 : Hid (∀ i, i < K → w8.cell? ⟨gL, i, none⟩ = some (.int .u8 ((zs ++ lit (sb a)).getD i 0))) := fun i hi => (K8.out gL i ltL).trans (KL.out i (by omega))
  have x3 : Hid (∀ j, j < NB + 1 → w8.cell? ⟨gW, K + j, none⟩ = some (.int .u8 ((lit (sb b)).getD (j + 1) 0))) := fun j hj => (K8.out gW _ ltW).trans (KR.out j hj)
  have x4 : Hid (∀ j, j < NB + 1 → w8.cell? ⟨gR, j + 1, none⟩ = some (.int .u8 ((lit (sb b)).getD (j + 1) 0))) := fun j hj => (K8.out gR _ ltR).trans (KB.out (j + 1) (by omega))
  clear c8 KW KL KR KB HB K8
  have d6 : decide (6 * (b.size : Int) < (NB : Int)) = false := decide_eq_false (by omega)
  have d7 : ((K : Int) + ((NB : Int) + 1) != (K : Int) + ((NB : Int) + 2) - 1) = false := by simp; omega
  go_wp2
  go_loopw [15] (fun i wr => ∃ k : Nat, k ≤ K ∧ i = .int .i64 k ∧ ∃ n, wr = w8.drewN n) (fun i _ => K - (intOf i).toNat)
  case atStart => exact ⟨0, Nat.zero_le _, rfl, m, rfl⟩
  case round =>
  obtain ⟨k2, hk2, rfl, n2, rfl⟩ := hrel
  by_cases hlt : k2 < K
  · obtain ⟨z, hz⟩ : ∃ z, (zs ++ lit (sb a)).getD k2 0 = z := ⟨_, rfl⟩
    have y1 : w8.cell? ⟨gW, k2, none⟩ = some (.int .u8 z) := hz ▸ x1.out k2 hlt
    have y2 : w8.cell? ⟨gL, k2, none⟩ = some (.int .u8 z) := hz ▸ x2.out k2 hlt
    have y3 : (k2 : Int) < (K : Int) := by omega
    have y4 : (k2 : Int) < (K : Int) + 1 := by omega
    have y5 : (k2 : Int) < (K : Int) + ((NB : Int) + 1) := by omega
    clear hz
    go_wp2
    go_quiet (fail)
    go_wp2
    go_roundw
    case rel => exact ⟨k2 + 1, by omega, by go_num, _, rfl⟩
    case measure => simp [intOf]; omega
  obtain rfl : k2 = K := by omega
  clear x1 x2
  go_wp2
  go_loopw [16] (fun i wr => ∃ k : Nat, k ≤ NB + 1 ∧ i = .int .i64 ((k : Int) + 1) ∧ ∃ n, wr = w8.drewN n) (fun i _ => NB + 2 - (intOf i).toNat)
  case atStart => exact ⟨0, Nat.zero_le _, rfl, n2, rfl⟩
  case round =>
  obtain ⟨k3, hk3, rfl, n3, rfl⟩ := hrel
  by_cases hlt : k3 < NB + 1
  · obtain ⟨z, hz⟩ : ∃ z, (lit (sb b)).getD (k3 + 1) 0 = z := ⟨_, rfl⟩
    have y1 : w8.cell? ⟨gW, k2 + k3, none⟩ = some (.int .u8 z) := hz ▸ x3.out k3 hlt
    have y2 : w8.cell? ⟨gR, k3 + 1, none⟩ = some (.int .u8 z) := hz ▸ x4.out k3 hlt
    have y3 : (k3 : Int) + 1 < (NB : Int) + 2 := by omega
    clear hz
    go_wp2
    go_quiet (fail)
    go_wp2
    go_roundw
    case rel => exact ⟨k3 + 1, by omega, by go_num, _, rfl⟩
    case measure => simp [intOf]; omega
  obtain rfl : k3 = NB + 1 := by omega
  have y3 : ¬ ((NB : Int) + 1 + 1 < (NB : Int) + 2) := by omega
  go_wp2
  go_ret
  exact ⟨rfl, below_drewN B8.out _⟩

set_option maxRecDepth 10000 in
set_option maxHeartbeats 2000000 in
/-- dst is nil. -/
theorem lawB_nil (a b : ByteArray) (w : World) (ha : a.size ≤ 262144) (hb : b.size ≤ 262144) :
    Calls Try.prog 4 #[.slice none 0 0, .string a, .string b] w fun e w' => e = .returned (.bool true) ∧ Below w.heap.size w w' := by
  have hbd : 0 + a.size + b.size ≤ 1048576 := by omega
  have d2 : decide ((262144 : Int) < (a.size : Int)) = false := decide_eq_false (by omega)
  have d3 : decide ((262144 : Int) < (b.size : Int)) = false := decide_eq_false (by omega)
  have hab : (a ++ b).size = a.size + b.size := by simp
  have HAB := hide hab
  clear hab
  go_enter Try.func4, Try.ntmps4
  go_wp2_with (go_at_call 10; refine (bound3_yes _ _ _ _ _ _ hbd).mono ?_; rintro e w' ⟨rfl, rfl⟩)
  refine (clone_nil w).mono ?_
  rintro e w' ⟨rfl, rfl⟩
  go_wp2_with fail
  refine (clone_nil w).mono ?_
  rintro e w' ⟨rfl, rfl⟩
  go_wp2_with fail
  refine (clone_nil w).mono ?_
  rintro e w' ⟨rfl, rfl⟩
  go_wp2_with fail
  refine (zz_any w.heap.size _ [] (a ++ b) w (by rw [HAB.out]; omega) (by simp) (World.ownsRow_nil _ _ _ _) (Nat.le_refl _)).mono ?_
  rintro e w4 ⟨vW, rfl, I4⟩
  have H4 := hide I4.own
  have B4 : Hid (Below w.heap.size w w4) := (Below.refl _ _).grown I4.grown (Nat.le_refl _) (fun q h => by cases h)
  have s4 : w.heap.size ≤ w4.heap.size := I4.grown.size
  clear I4
  go_wp2_with fail
  refine (clone_nil w4).mono ?_
  rintro e w' ⟨rfl, rfl⟩
  go_wp2_with fail
  refine (zz_any w4.heap.size _ [] a w4 (by omega) (by simp) (World.ownsRow_nil _ _ _ _) (Nat.le_refl _)).mono ?_
  rintro e w6 ⟨vL, rfl, I6⟩
  have F6 := hide I6.own
  have H6 := hide (own_app H4.out I6.grown (fun g h e => by cases e))
  have B6 : Hid (Below w.heap.size w w6) := B4.out.grown I6.grown (by omega) (fun q h => by cases h)
  have s6 : w4.heap.size ≤ w6.heap.size := I6.grown.size
  clear I6 H4 B4
  go_wp2_with fail
  refine (zz_any w6.heap.size (.slice none 0 0) [] b w6 (by omega) (by simp) (World.ownsRow_nil _ _ _ _) (Nat.le_refl _)).mono ?_
  rintro e w7 ⟨vR, rfl, I7⟩
  have own7 := I7.own
  have F7 := own_app F6.out I7.grown (fun g h e => by cases e)
  have H7 := own_app H6.out I7.grown (fun g h e => by cases e)
  have B7 : Hid (Below w.heap.size w w7) := B6.out.grown I7.grown (by omega) (fun q h => by cases h)
  clear I7 F6 H6 B6
  obtain ⟨NB, hNB⟩ : ∃ N, (body (sb b)).length = N := ⟨_, rfl⟩
  obtain ⟨K, hK⟩ : ∃ N, (cutL [] (sb a)).length = N := ⟨_, rfl⟩
  have lA : 0 + 1 ≤ K ∧ K ≤ 0 + 6 * a.size + 1 := by rw [← hK, cutL_len]; have := body_len (sb a); rw [sb_length] at this; simp only [List.length_nil]; omega
  have lB : NB ≤ 6 * b.size := by rw [← hNB]; have := body_len (sb b); rw [sb_length] at this; omega
  have e7 : ([] ++ lit (sb b) : List Int).length = NB + 2 := by rw [List.nil_append, lit_len, hNB]
  have eF : ([] ++ lit (sb a) : List Int).length = K + 1 := by rw [left_eq, List.length_append, hK]; rfl
  have eH : ([] ++ lit (sb (a ++ b)) : List Int).length = K + (NB + 1) := by rw [sb_append, whole_eq, List.length_append, hK, List.length_append, hNB]; rfl
  rw [e7] at own7
  rw [eF] at F7
  rw [eH] at H7
  obtain ⟨gR, capR, hvR, hleR, hmR⟩ := own_form own7 (by omega)
  obtain ⟨gL, capL, hvL, hleL, hmL⟩ := own_form F7 (by omega)
  obtain ⟨gW, capW, hvW, hleW, hmW⟩ := own_form H7 (by omega)
  rw [hvR] at own7 ⊢
  rw [hvL] at F7 ⊢
  rw [hvW] at H7 ⊢
  have CR := own_cells own7
  have CLf := own_cells F7
  have CW := own_cells H7
  have ltR := (own_lt own7).2
  have ltL := (own_lt F7).2
  have ltW := (own_lt H7).2
  have fL : w7.cell? ⟨gL, K, none⟩ = some (.int .u8 34) := (CLf _ (by omega)).trans (by rw [← hK, left_last])
  have KW : Hid (∀ i, i < K → w7.cell? ⟨gW, i, none⟩ = some (.int .u8 (([] ++ lit (sb a)).getD i 0))) := fun i hi => (CW i (by omega)).trans (by rw [sb_append, whole_left _ _ _ _ (by omega)])
  have KR : Hid (∀ j, j < NB + 1 → w7.cell? ⟨gW, K + j, none⟩ = some (.int .u8 ((lit (sb b)).getD (j + 1) 0))) := fun j hj => (CW _ (by omega)).trans (by rw [sb_append, ← hK, whole_right])
  rw [List.nil_append] at CR
  have KL := hide CLf
  have KB := hide CR
  have HB := hide (show (lit (sb b)).length = NB + 2 by rw [lit_len, hNB])
  unfold maxLen at hmR hmL hmW
  clear own7 F7 H7 hvR hvL hvW e7 eF eH CR CLf CW hNB hK HAB
  have d4 : decide ((K : Int) + 1 < (0 : Int) + 2) = false := decide_eq_false (by omega)
  have d5 : decide ((NB : Int) + 2 < 2) = false := decide_eq_false (by omega)
  go_wp2
  refine wp_loop_rounds 1 ?_
  rw [rounds_succ]
  obtain ⟨n, hw7⟩ : ∃ n, w7 = w7.drewN n := ⟨0, rfl⟩
  rw [hw7]
  clear hw7
  go_wp2_with fail
  refine (decode_any gR 0 (NB + 2) capR (sb b) (w7.drewN n) HB.out (sb_bounds b) (by omega) (by exact ltR) (fun i hi => by rw [Nat.zero_add]; exact KB.out i hi)).mono ?_
  rintro e w8 ⟨cp, rfl, ho8, hb8⟩
  have hsz : (sb b).length = b.size := sb_length b
  rw [hsz] at ho8
  have c8 := hide (own_cells ho8)
  have B8 : Hid (Below w.heap.size w w8) := (below_drewN B7.out n).trans (hb8.mono (by show w.heap.size ≤ w7.heap.size; exact B7.out.size))
  have K8 : Hid (∀ g i, g < w7.heap.size → w8.cell? ⟨g, i, none⟩ = w7.cell? ⟨g, i, none⟩) := fun g i hg => hb8.cell (p := ⟨g, i, none⟩) hg
  clear ho8 hb8 B7 fL
  go_wp2_with fail
  refine (same_any w7.heap.size 0 cp b w8 (by omega) (fun i hi => by rw [Nat.zero_add]; exact c8.out i hi)).mono ?_
  rintro e w9 ⟨rfl, m, rfl⟩
  have x1 : Hid (∀ i, i < K → w8.cell? ⟨gW, i, none⟩ = some (.int .u8 (([] ++ lit (sb a)).getD i 0))) := fun i hi => (K8.out gW i ltW).trans (KW.out i hi)
  have x2 : Hid (∀ i, i < K → w8.cell? ⟨gL, i, none⟩ = some (.int .u8 (([] ++ lit (sb a)).getD i 0))) := fun i hi => (K8.out gL i ltL).trans (KL.out i (by omega))
  have x3 : Hid (∀ j, j < NB + 1 → w8.cell? ⟨gW, K + j, none⟩ = some (.int .u8 ((lit (sb b)).getD (j + 1) 0))) := fun j hj => (K8.out gW _ ltW).trans (KR.out j hj)
  have x4 : Hid (∀ j, j < NB + 1 → w8.cell? ⟨gR, j + 1, none⟩ = some (.int .u8 ((lit (sb b)).getD (j + 1) 0))) := fun j hj => (K8.out gR _ ltR).trans (KB.out (j + 1) (by omega))
  clear c8 KW KL KR KB HB K8
  have d6 : decide (6 * (b.size : Int) < (NB : Int)) = false := decide_eq_false (by omega)
  have d7 : ((K : Int) + ((NB : Int) + 1) != (K : Int) + ((NB : Int) + 2) - 1) = false := by simp; omega
  go_wp2
  go_loopw [15] (fun i wr => ∃ k : Nat, k ≤ K ∧ i = .int .i64 k ∧ ∃ n, wr = w8.drewN n) (fun i _ => K - (intOf i).toNat)
  case atStart => exact ⟨0, Nat.zero_le _, rfl, m, rfl⟩
  case round =>
  obtain ⟨k2, hk2, rfl, n2, rfl⟩ := hrel
  by_cases hlt : k2 < K
  · obtain ⟨z, hz⟩ : ∃ z, ([] ++ lit (sb a)).getD k2 0 = z := ⟨_, rfl⟩
    have y1 : w8.cell? ⟨gW, k2, none⟩ = some (.int .u8 z) := hz ▸ x1.out k2 hlt
    have y2 : w8.cell? ⟨gL, k2, none⟩ = some (.int .u8 z) := hz ▸ x2.out k2 hlt
    have y3 : (k2 : Int) < (K : Int) := by omega
    have y4 : (k2 : Int) < (K : Int) + 1 := by omega
    have y5 : (k2 : Int) < (K : Int) + ((NB : Int) + 1) := by omega
    clear hz
    go_wp2
    go_quiet (fail)
    go_wp2
    go_roundw
    case rel => exact ⟨k2 + 1, by omega, by go_num, _, rfl⟩
    case measure => simp [intOf]; omega
  obtain rfl : k2 = K := by omega
  clear x1 x2
  go_wp2
  go_loopw [16] (fun i wr => ∃ k : Nat, k ≤ NB + 1 ∧ i = .int .i64 ((k : Int) + 1) ∧ ∃ n, wr = w8.drewN n) (fun i _ => NB + 2 - (intOf i).toNat)
  case atStart => exact ⟨0, Nat.zero_le _, rfl, n2, rfl⟩
  case round =>
  obtain ⟨k3, hk3, rfl, n3, rfl⟩ := hrel
  by_cases hlt : k3 < NB + 1
  · obtain ⟨z, hz⟩ : ∃ z, (lit (sb b)).getD (k3 + 1) 0 = z := ⟨_, rfl⟩
    have y1 : w8.cell? ⟨gW, k2 + k3, none⟩ = some (.int .u8 z) := hz ▸ x3.out k3 hlt
    have y2 : w8.cell? ⟨gR, k3 + 1, none⟩ = some (.int .u8 z) := hz ▸ x4.out k3 hlt
    have y3 : (k3 : Int) + 1 < (NB : Int) + 2 := by omega
    clear hz
    go_wp2
    go_quiet (fail)
    go_wp2
    go_roundw
    case rel => exact ⟨k3 + 1, by omega, by go_num, _, rfl⟩
    case measure => simp [intOf]; omega
  obtain rfl : k3 = NB + 1 := by omega
  have y3 : ¬ ((NB : Int) + 1 + 1 < (NB : Int) + 2) := by omega
  go_wp2
  go_ret
  exact ⟨rfl, below_drewN B8.out _⟩
end Go.Proofs.Qxb6619861a
