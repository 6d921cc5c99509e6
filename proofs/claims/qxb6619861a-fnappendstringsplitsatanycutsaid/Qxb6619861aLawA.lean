/- THE FIRST LAW's WALK. -/
import Derived.Test.Qxb6619861aDecode
namespace Go.Proofs.Qxb6619861a
open Go.ChangeShapes Go.WideShapes Go.ChangeAt Go.RowKit

theorem grown_of_below {w w' : World} (h : Below w.heap.size w w') : w.grownBy w' none := ⟨h.os, h.tape, h.output, h.size, fun k hk _ => h.block k hk⟩
theorem own_below {w w' : World} {base e size : Nat} {v : Value} {n : Nat} {xs : List Value} (h : w.ownsRow base e size v n xs) (hb : Below w.heap.size w w') : w'.ownsRow base e size v n xs :=
  h.kept (grown_of_below hb) (by cases v.ownBlock <;> simp)
theorem own_cells {w : World} {base : Nat} {g n cap : Nat} {l : List Int} (h : w.ownsRow base 5 1 (.slice (some ⟨g, 0, none⟩) n cap) n (l.map (Value.int .u8))) : ∀ i, i < n → w.cell? ⟨g, i, none⟩ = some (.int .u8 (l.getD i 0)) := by
  intro i hi
  have hl : l.length = n := by have := h.1; simpa using this
  rw [h.cellAt i (by omega)]
  simp [List.getElem?_eq_getElem (show i < l.length by omega), List.getD]
theorem own_lt {w : World} {base g n cap : Nat} {xs : List Value} (h : w.ownsRow base 5 1 (.slice (some ⟨g, 0, none⟩) n cap) n xs) : base ≤ g ∧ g < w.heap.size := h.lt g rfl
/-- A slice of the call's own that is not empty lies in a row. -/
theorem own_form {w : World} {base n : Nat} {v : Value} {xs : List Value} (h : w.ownsRow base 5 1 v n xs) (hn : 0 < n) : ∃ g cap, v = .slice (some ⟨g, 0, none⟩) n cap ∧ n ≤ cap ∧ cap ≤ maxLen := by
  rcases h.2 with ⟨_, h0⟩ | ⟨g, cap, cur, rfl, _, _, hc, hm, _⟩
  · omega
  · exact ⟨g, cap, rfl, hc, hm⟩
theorem below_drewN {B : Nat} {a w : World} (h : Below B a w) (n : Nat) : Below B a (w.drewN n) := ⟨h.os, h.tape, h.output, h.size, h.block⟩

theorem getD_append_left' (a b : List Int) (i : Nat) (h : i < a.length) : (a ++ b).getD i 0 = a.getD i 0 := by
  simp [List.getD, List.getElem?_append_left h]
theorem getD_append_right' (a b : List Int) (i : Nat) : (a ++ b).getD (a.length + i) 0 = b.getD i 0 := by
  simp only [List.getD_eq_getElem?_getD]
  rw [List.getElem?_append_right (by omega), Nat.add_sub_cancel_left]

/-- Too long: nothing is looked at. -/
theorem lawA_long (a : Option Addr) (n c : Nat) (s : ByteArray) (w : World) (hn : n ≤ maxLen) (hs : s.size ≤ maxLen) (h : ¬ (n ≤ 524288 ∧ s.size ≤ 524288)) :
    Calls Try.prog 3 #[.slice a n c, .string s] w fun e w' => e = .returned (.bool true) ∧ Below w.heap.size w w' := by
  by_cases h1 : n + s.size ≤ 1048576
  · by_cases h2 : 524288 < n
    · go_enter Try.func3, Try.ntmps3
      go_wp2_with (go_at_call 5; refine (bound2_yes _ _ _ _ _ h1).mono ?_; rintro e w' ⟨rfl, rfl⟩)
      go_ret
      exact ⟨rfl, Below.refl _ _⟩
    · have h3 : 524288 < s.size := by omega
      go_enter Try.func3, Try.ntmps3
      go_wp2_with (go_at_call 5; refine (bound2_yes _ _ _ _ _ h1).mono ?_; rintro e w' ⟨rfl, rfl⟩)
      go_ret
      exact ⟨rfl, Below.refl _ _⟩
  · go_enter Try.func3, Try.ntmps3
    go_wp2_with (go_at_call 5; refine (bound2_no _ _ _ _ _ hn hs h1).mono ?_; rintro e w' ⟨rfl, rfl⟩)
    go_ret
    exact ⟨rfl, Below.refl _ _⟩

set_option maxHeartbeats 1000000 in
/-- dst is not nil. -/
theorem lawA_row (a : Option Addr) (cap : Nat) (zs : List Int) (s : ByteArray) (w : World) (hn : zs.length ≤ 524288) (hs : s.size ≤ 524288)
    (hcl : Calls Try.prog 6 #[.slice a zs.length cap] w fun e w' => e = .returned (.slice (some ⟨w.heap.size, 0, none⟩) zs.length zs.length) ∧
      w'.ownsRow w.heap.size 5 1 (.slice (some ⟨w.heap.size, 0, none⟩) zs.length zs.length) zs.length (zs.map (Value.int .u8)) ∧ Below w.heap.size w w') :
    Calls Try.prog 3 #[.slice a zs.length cap, .string s] w fun e w' => e = .returned (.bool true) ∧ Below w.heap.size w w' := by
  have CL := hide hcl
  clear hcl
  have hbd : zs.length + s.size ≤ 1048576 := by omega
  have d1 : decide ((524288 : Int) < (zs.length : Int)) = false := decide_eq_false (by omega)
  have d2 : decide ((524288 : Int) < (s.size : Int)) = false := decide_eq_false (by omega)
  go_enter Try.func3, Try.ntmps3
  go_wp2_with (go_at_call 5; refine (bound2_yes _ _ _ _ _ hbd).mono ?_; rintro e w' ⟨rfl, rfl⟩)
  refine CL.out.mono ?_
  rintro e w1 ⟨rfl, ho1, hb1⟩
  clear CL
  have O1 := hide ho1
  have B1 := hide hb1
  clear ho1 hb1
  go_wp2_with fail
  have hlt1 := own_lt O1.out
  refine (clone_row w.heap.size 0 zs.length zs.length zs w1 rfl (by omega) (fun i hi => by rw [Nat.zero_add]; exact own_cells O1.out i hi) (fun _ => hlt1.2)).mono ?_
  rintro e w2 ⟨rfl, ho2, hb2⟩
  have O2 := hide ho2
  have O1' := hide (own_below O1.out hb2)
  have B2 : Hid (Below w.heap.size w w2) := B1.out.trans (hb2.mono (by omega))
  have hs2 : w1.heap.size < w2.heap.size := (own_lt ho2).2
  clear ho2 hb2 O1 B1
  go_wp2_with fail
  refine (zz_any w.heap.size _ zs s w2 (by omega) (by omega) O1'.out (by omega)).mono ?_
  rintro e w3 ⟨v3, rfl, I3⟩
  obtain ⟨M, hM⟩ : ∃ M, (lit (sb s)).length = M := ⟨_, rfl⟩
  have hM2 : 2 ≤ M ∧ M ≤ 6 * s.size + 2 := by rw [← hM, lit_len]; have := body_len (sb s); rw [sb_length] at this; omega
  have own3 := I3.own
  have hl3 : (zs ++ lit (sb s)).length = zs.length + M := by rw [List.length_append, hM]
  rw [hl3] at own3
  obtain ⟨g3, cap3, hv3, hle3, hm3⟩ := own_form own3 (by omega)
  rw [hv3] at own3 ⊢
  have c3 := own_cells own3
  have hg3 := (own_lt own3).2
  have c2 := own_cells (O2.out.kept I3.grown (.inr (by simp [Value.ownBlock]; omega)))
  have B3 : Hid (Below w.heap.size w w3) := B2.out.grown I3.grown (by omega) (fun q h => by simp [Value.ownBlock] at h; omega)
  have HM := hide hM
  unfold maxLen at hm3
  clear I3 own3 hv3 hl3 O2 O1' B2 hM
  have d3 : decide ((zs.length : Int) + (M : Int) < (zs.length : Int)) = false := decide_eq_false (by omega)
  go_wp2
  go_loopw [7] (fun i wr => ∃ k : Nat, k ≤ zs.length ∧ i = .int .i64 k ∧ ∃ n, wr = w3.drewN n) (fun i _ => zs.length - (intOf i).toNat)
  case atStart => exact ⟨0, Nat.zero_le _, rfl, 0, rfl⟩
  case round =>
    obtain ⟨k, hk, rfl, n, rfl⟩ := hrel
    by_cases hlt : k < zs.length
    · obtain ⟨z, hz⟩ : ∃ z, zs.getD k 0 = z := ⟨_, rfl⟩
      have x2 : w3.cell? ⟨w1.heap.size, k, none⟩ = some (.int .u8 z) := hz ▸ c2 k hlt
      have x3 : w3.cell? ⟨g3, k, none⟩ = some (.int .u8 z) := by rw [c3 k (by omega), getD_append_left' _ _ _ hlt, hz]
      have y1 : (k : Int) < (zs.length : Int) := by omega
      have y2 : (k : Int) < (zs.length : Int) + (M : Int) := by omega
      clear c2 c3 hz
      go_wp2
      go_quiet (fail)
      go_wp2
      go_roundw
      case rel => exact ⟨k + 1, by omega, by go_num, _, rfl⟩
      case measure => simp [intOf]; omega
    · obtain rfl : k = zs.length := by omega
      have hcx : ∀ i, i < M → w3.cell? ⟨g3, zs.length + i, none⟩ = some (.int .u8 ((lit (sb s)).getD i 0)) := fun i hi => by
        rw [c3 _ (by omega), getD_append_right']
      have HC := hide hcx
      have hne : ¬ cap3 = zs.length := by omega
      clear c2 c3 hcx
      go_wp2_with fail
      refine (decode_any g3 zs.length M (cap3 - zs.length) (sb s) (w3.drewN n) HM.out (sb_bounds s) (by omega) (by exact hg3) (by exact HC.out)).mono ?_
      rintro e w4 ⟨cp, rfl, ho4, hb4⟩
      have hsz : (sb s).length = s.size := sb_length s
      rw [hsz] at ho4
      have c4 := hide (own_cells ho4)
      have B4 : Hid (Below w.heap.size w w4) := (below_drewN B3.out n).trans (hb4.mono (by show w.heap.size ≤ w3.heap.size; exact B3.out.size))
      clear ho4 hb4 B3
      go_wp2_with fail
      refine (same_any w3.heap.size 0 cp s w4 (by omega) (fun i hi => by rw [Nat.zero_add]; exact c4.out i hi)).mono ?_
      rintro e w5 ⟨rfl, m, rfl⟩
      go_wp2
      go_ret
      exact ⟨rfl, below_drewN B4.out m⟩

set_option maxHeartbeats 1000000 in
/-- dst is nil. -/
theorem lawA_nil (s : ByteArray) (w : World) (hs : s.size ≤ 524288) :
    Calls Try.prog 3 #[.slice none 0 0, .string s] w fun e w' => e = .returned (.bool true) ∧ Below w.heap.size w w' := by
  have hbd : 0 + s.size ≤ 1048576 := by omega
  have d2 : decide ((524288 : Int) < (s.size : Int)) = false := decide_eq_false (by omega)
  go_enter Try.func3, Try.ntmps3
  go_wp2_with (go_at_call 5; refine (bound2_yes _ _ _ _ _ hbd).mono ?_; rintro e w' ⟨rfl, rfl⟩)
  refine (clone_nil w).mono ?_
  rintro e w' ⟨rfl, rfl⟩
  go_wp2_with fail
  refine (clone_nil w).mono ?_
  rintro e w' ⟨rfl, rfl⟩
  go_wp2_with fail
  refine (zz_any w.heap.size _ [] s w (by omega) (by simp) (World.ownsRow_nil _ _ _ _) (Nat.le_refl _)).mono ?_
  rintro e w3 ⟨v3, rfl, I3⟩
  obtain ⟨M, hM⟩ : ∃ M, (lit (sb s)).length = M := ⟨_, rfl⟩
  have hM2 : 2 ≤ M ∧ M ≤ 6 * s.size + 2 := by rw [← hM, lit_len]; have := body_len (sb s); rw [sb_length] at this; omega
  have own3 := I3.own
  rw [List.nil_append, hM] at own3
  obtain ⟨g3, cap3, hv3, hle3, hm3⟩ := own_form own3 (by omega)
  rw [hv3] at own3 ⊢
  have HC := hide (own_cells own3)
  have hg3 := (own_lt own3).2
  have B3 : Hid (Below w.heap.size w w3) := (Below.refl _ _).grown I3.grown (Nat.le_refl _) (fun q h => by cases h)
  have HM := hide hM
  unfold maxLen at hm3
  clear I3 own3 hv3 hM
  go_wp2
  refine wp_loop_rounds 1 ?_
  rw [rounds_succ]
  go_wp2_with fail
  refine (decode_any g3 0 M cap3 (sb s) w3 HM.out (sb_bounds s) (by omega) hg3 (fun i hi => by rw [Nat.zero_add]; exact HC.out i hi)).mono ?_
  rintro e w4 ⟨cp, rfl, ho4, hb4⟩
  have hsz : (sb s).length = s.size := sb_length s
  rw [hsz] at ho4
  have c4 := hide (own_cells ho4)
  have B4 : Hid (Below w.heap.size w w4) := B3.out.trans (hb4.mono B3.out.size)
  clear ho4 hb4 B3
  go_wp2_with fail
  refine (same_any w3.heap.size 0 cp s w4 (by omega) (fun i hi => by rw [Nat.zero_add]; exact c4.out i hi)).mono ?_
  rintro e w5 ⟨rfl, m, rfl⟩
  go_wp2
  go_ret
  exact ⟨rfl, below_drewN B4.out m⟩
end Go.Proofs.Qxb6619861a
