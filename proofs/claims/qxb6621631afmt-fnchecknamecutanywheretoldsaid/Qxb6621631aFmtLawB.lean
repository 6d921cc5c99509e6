/- A LAW's WALKS. -/
import Derived.Test.Qxb6621631aFmtLawA
namespace Go.Proofs.Qxb6621631aFmt
open Go.RowKit Go.Extern.Stop Go.Stop Go.Extern
set_option linter.unusedVariables false

theorem law6_long (s : ByteArray) (i : Int) (w : World) (hs : s.size ≤ maxLen) (h : ¬ s.size ≤ 1048576) :
    Calls Tryf.prog 6 #[.string s, .int .i64 i] w fun e w' => e = .returned (.bool true) ∧ Below w.heap.size w w' := by
  go_enter Tryf.func6, Tryf.ntmps6
  go_wp2_with (go_at_call 13; refine (bound13_no _ _ _ hs h).mono ?_; rintro e w' ⟨rfl, rfl⟩)
  go_ret
  exact ⟨rfl, Below.refl _ _⟩
theorem law6_out (s : ByteArray) (i : Int) (w : World) (hs : s.size ≤ 1048576) (h : ¬ (1 ≤ i ∧ i < (s.size : Int))) :
    Calls Tryf.prog 6 #[.string s, .int .i64 i] w fun e w' => e = .returned (.bool true) ∧ Below w.heap.size w w' := by
  rcases (show i < 1 ∨ (1 ≤ i ∧ (s.size : Int) ≤ i) by omega) with h1 | ⟨h1, h2⟩
  all_goals
    clear h
    go_enter Tryf.func6, Tryf.ntmps6
    go_wp2_with (go_at_call 13; refine (bound13_yes _ _ _ hs).mono ?_; rintro e w' ⟨rfl, rfl⟩)
    go_ret
    exact ⟨rfl, Below.refl _ _⟩
theorem cut_left (s : ByteArray) (j : Nat) (h : j ≤ s.size) : (s.extract 0 j).size = j := by simp; omega
theorem cut_right (s : ByteArray) (j : Nat) : (s.extract j s.size).size = s.size - j := by simp
theorem name_cut (s : ByteArray) (j : Nat) (h1 : 1 ≤ j) (h2 : j < s.size) : nameB s = (nameB (s.extract 0 j) && nameB (s.extract j s.size) && decide (s.size ≤ 64)) := by
  unfold nameB
  rw [word_parts, word_parts, word_parts, cut_left s j (by omega), cut_right, okAll_cut s j]
  rw [decide_eq_true (show 1 ≤ s.size by omega), decide_eq_true h1, decide_eq_true (show 1 ≤ s.size - j by omega)]
  by_cases h64 : s.size ≤ 64
  · rw [decide_eq_true (show (s.size : Int) ≤ 64 by omega), decide_eq_true (show (j : Int) ≤ 64 by omega), decide_eq_true (show ((s.size - j : Nat) : Int) ≤ 64 by omega), decide_eq_true h64]
    cases okAll (s.extract 0 j) <;> cases okAll (s.extract j s.size) <;> rfl
  · rw [decide_eq_false (show ¬ (s.size : Int) ≤ 64 by omega), decide_eq_false h64]
    simp

set_option maxHeartbeats 1000000 in
theorem law6_ttt (F : Interp) (s : ByteArray) (j : Nat) (w : World) (hF : F.answers w.tape) (hs : s.size ≤ 1048576) (j1 : 1 ≤ j) (j2 : j < s.size) (z1 : (s.extract 0 j).size ≤ 1048576) (z2 : (s.extract j s.size).size ≤ 1048576) (h1 : nameB s = true) (h2 : nameB (s.extract 0 j) = true) (h3 : nameB (s.extract j s.size) = true) (l : decide ((s.size : Int) ≤ 64) = true) :
    Calls Tryf.prog 6 #[.string s, .int .i64 (j : Int)] w fun e w' => e = .returned (.bool true) ∧ Below w.heap.size w w' := by
  have HF := hide hF
  have Z1 := hide z1
  have Z2 := hide z2
  clear hF z1 z2
  have H1 := hide h1
  have H2 := hide h2
  have H3 := hide h3
  clear h1 h2 h3
  go_enter Tryf.func6, Tryf.ntmps6
  go_wp2_with (go_at_call 13; refine (bound13_yes _ _ _ hs).mono ?_; rintro e w' ⟨rfl, rfl⟩)
  refine (name_ok s w hs H1.out).mono ?_
  rintro e w' ⟨rfl, rfl⟩
  go_wp2_with fail
  refine (name_ok (s.extract 0 j) w Z1.out H2.out).mono ?_
  rintro e w' ⟨rfl, rfl⟩
  go_wp2_with fail
  refine (name_ok (s.extract j s.size) w Z2.out H3.out).mono ?_
  rintro e w' ⟨rfl, rfl⟩
  go_wp2
  all_goals (go_ret; exact ⟨rfl, Below.refl _ _⟩)

set_option maxHeartbeats 1000000 in
theorem law6_ftt (F : Interp) (s : ByteArray) (j : Nat) (w : World) (hF : F.answers w.tape) (hs : s.size ≤ 1048576) (j1 : 1 ≤ j) (j2 : j < s.size) (z1 : (s.extract 0 j).size ≤ 1048576) (z2 : (s.extract j s.size).size ≤ 1048576) (h1 : nameB s = false) (h2 : nameB (s.extract 0 j) = true) (h3 : nameB (s.extract j s.size) = true) (l : decide ((s.size : Int) ≤ 64) = false) :
    Calls Tryf.prog 6 #[.string s, .int .i64 (j : Int)] w fun e w' => e = .returned (.bool true) ∧ Below w.heap.size w w' := by
  have HF := hide hF
  have Z1 := hide z1
  have Z2 := hide z2
  clear hF z1 z2
  have H1 := hide h1
  have H2 := hide h2
  have H3 := hide h3
  clear h1 h2 h3
  go_enter Tryf.func6, Tryf.ntmps6
  go_wp2_with (go_at_call 13; refine (bound13_yes _ _ _ hs).mono ?_; rintro e w' ⟨rfl, rfl⟩)
  refine (name_bad F s w (by exact HF.out) hs H1.out).mono ?_
  rintro e w1 ⟨⟨v, rfl, hv⟩, hb⟩
  obtain ⟨T, ad, tx, rfl, _, _⟩ := hv
  have HF1 : Hid (F.answers w1.tape) := by show F.answers w1.tape; rw [hb.tape]; exact HF.out
  have HB1 : Hid (Below w.heap.size w w1) := hb
  clear hb
  go_wp2_with fail
  refine (name_ok (s.extract 0 j) w1 Z1.out H2.out).mono ?_
  rintro e w' ⟨rfl, rfl⟩
  go_wp2_with fail
  refine (name_ok (s.extract j s.size) w1 Z2.out H3.out).mono ?_
  rintro e w' ⟨rfl, rfl⟩
  go_wp2
  all_goals (go_ret; exact ⟨rfl, HB1.out⟩)

set_option maxHeartbeats 1000000 in
theorem law6_ftf (F : Interp) (s : ByteArray) (j : Nat) (w : World) (hF : F.answers w.tape) (hs : s.size ≤ 1048576) (j1 : 1 ≤ j) (j2 : j < s.size) (z1 : (s.extract 0 j).size ≤ 1048576) (z2 : (s.extract j s.size).size ≤ 1048576) (h1 : nameB s = false) (h2 : nameB (s.extract 0 j) = true) (h3 : nameB (s.extract j s.size) = false) :
    Calls Tryf.prog 6 #[.string s, .int .i64 (j : Int)] w fun e w' => e = .returned (.bool true) ∧ Below w.heap.size w w' := by
  have HF := hide hF
  have Z1 := hide z1
  have Z2 := hide z2
  clear hF z1 z2
  have H1 := hide h1
  have H2 := hide h2
  have H3 := hide h3
  clear h1 h2 h3
  go_enter Tryf.func6, Tryf.ntmps6
  go_wp2_with (go_at_call 13; refine (bound13_yes _ _ _ hs).mono ?_; rintro e w' ⟨rfl, rfl⟩)
  refine (name_bad F s w (by exact HF.out) hs H1.out).mono ?_
  rintro e w1 ⟨⟨v, rfl, hv⟩, hb⟩
  obtain ⟨T, ad, tx, rfl, _, _⟩ := hv
  have HF1 : Hid (F.answers w1.tape) := by show F.answers w1.tape; rw [hb.tape]; exact HF.out
  have HB1 : Hid (Below w.heap.size w w1) := hb
  clear hb
  go_wp2_with fail
  refine (name_ok (s.extract 0 j) w1 Z1.out H2.out).mono ?_
  rintro e w' ⟨rfl, rfl⟩
  go_wp2_with fail
  refine (name_bad F (s.extract j s.size) w1 (by exact HF1.out) Z2.out H3.out).mono ?_
  rintro e w2 ⟨⟨v, rfl, hv⟩, hb⟩
  obtain ⟨T, ad, tx, rfl, _, _⟩ := hv
  have HF2 : Hid (F.answers w2.tape) := by show F.answers w2.tape; rw [hb.tape]; exact HF1.out
  have HB2 : Hid (Below w.heap.size w w2) := HB1.out.trans (hb.mono HB1.out.size)
  clear hb
  go_wp2
  all_goals (go_ret; exact ⟨rfl, HB2.out⟩)

set_option maxHeartbeats 1000000 in
theorem law6_fft (F : Interp) (s : ByteArray) (j : Nat) (w : World) (hF : F.answers w.tape) (hs : s.size ≤ 1048576) (j1 : 1 ≤ j) (j2 : j < s.size) (z1 : (s.extract 0 j).size ≤ 1048576) (z2 : (s.extract j s.size).size ≤ 1048576) (h1 : nameB s = false) (h2 : nameB (s.extract 0 j) = false) (h3 : nameB (s.extract j s.size) = true) :
    Calls Tryf.prog 6 #[.string s, .int .i64 (j : Int)] w fun e w' => e = .returned (.bool true) ∧ Below w.heap.size w w' := by
  have HF := hide hF
  have Z1 := hide z1
  have Z2 := hide z2
  clear hF z1 z2
  have H1 := hide h1
  have H2 := hide h2
  have H3 := hide h3
  clear h1 h2 h3
  go_enter Tryf.func6, Tryf.ntmps6
  go_wp2_with (go_at_call 13; refine (bound13_yes _ _ _ hs).mono ?_; rintro e w' ⟨rfl, rfl⟩)
  refine (name_bad F s w (by exact HF.out) hs H1.out).mono ?_
  rintro e w1 ⟨⟨v, rfl, hv⟩, hb⟩
  obtain ⟨T, ad, tx, rfl, _, _⟩ := hv
  have HF1 : Hid (F.answers w1.tape) := by show F.answers w1.tape; rw [hb.tape]; exact HF.out
  have HB1 : Hid (Below w.heap.size w w1) := hb
  clear hb
  go_wp2_with fail
  refine (name_bad F (s.extract 0 j) w1 (by exact HF1.out) Z1.out H2.out).mono ?_
  rintro e w2 ⟨⟨v, rfl, hv⟩, hb⟩
  obtain ⟨T, ad, tx, rfl, _, _⟩ := hv
  have HF2 : Hid (F.answers w2.tape) := by show F.answers w2.tape; rw [hb.tape]; exact HF1.out
  have HB2 : Hid (Below w.heap.size w w2) := HB1.out.trans (hb.mono HB1.out.size)
  clear hb
  go_wp2_with fail
  refine (name_ok (s.extract j s.size) w2 Z2.out H3.out).mono ?_
  rintro e w' ⟨rfl, rfl⟩
  go_wp2
  all_goals (go_ret; exact ⟨rfl, HB2.out⟩)

set_option maxHeartbeats 1000000 in
theorem law6_fff (F : Interp) (s : ByteArray) (j : Nat) (w : World) (hF : F.answers w.tape) (hs : s.size ≤ 1048576) (j1 : 1 ≤ j) (j2 : j < s.size) (z1 : (s.extract 0 j).size ≤ 1048576) (z2 : (s.extract j s.size).size ≤ 1048576) (h1 : nameB s = false) (h2 : nameB (s.extract 0 j) = false) (h3 : nameB (s.extract j s.size) = false) :
    Calls Tryf.prog 6 #[.string s, .int .i64 (j : Int)] w fun e w' => e = .returned (.bool true) ∧ Below w.heap.size w w' := by
  have HF := hide hF
  have Z1 := hide z1
  have Z2 := hide z2
  clear hF z1 z2
  have H1 := hide h1
  have H2 := hide h2
  have H3 := hide h3
  clear h1 h2 h3
  go_enter Tryf.func6, Tryf.ntmps6
  go_wp2_with (go_at_call 13; refine (bound13_yes _ _ _ hs).mono ?_; rintro e w' ⟨rfl, rfl⟩)
  refine (name_bad F s w (by exact HF.out) hs H1.out).mono ?_
  rintro e w1 ⟨⟨v, rfl, hv⟩, hb⟩
  obtain ⟨T, ad, tx, rfl, _, _⟩ := hv
  have HF1 : Hid (F.answers w1.tape) := by show F.answers w1.tape; rw [hb.tape]; exact HF.out
  have HB1 : Hid (Below w.heap.size w w1) := hb
  clear hb
  go_wp2_with fail
  refine (name_bad F (s.extract 0 j) w1 (by exact HF1.out) Z1.out H2.out).mono ?_
  rintro e w2 ⟨⟨v, rfl, hv⟩, hb⟩
  obtain ⟨T, ad, tx, rfl, _, _⟩ := hv
  have HF2 : Hid (F.answers w2.tape) := by show F.answers w2.tape; rw [hb.tape]; exact HF1.out
  have HB2 : Hid (Below w.heap.size w w2) := HB1.out.trans (hb.mono HB1.out.size)
  clear hb
  go_wp2_with fail
  refine (name_bad F (s.extract j s.size) w2 (by exact HF2.out) Z2.out H3.out).mono ?_
  rintro e w3 ⟨⟨v, rfl, hv⟩, hb⟩
  obtain ⟨T, ad, tx, rfl, _, _⟩ := hv
  have HF3 : Hid (F.answers w3.tape) := by show F.answers w3.tape; rw [hb.tape]; exact HF2.out
  have HB3 : Hid (Below w.heap.size w w3) := HB2.out.trans (hb.mono HB2.out.size)
  clear hb
  go_wp2
  all_goals (go_ret; exact ⟨rfl, HB3.out⟩)

end Go.Proofs.Qxb6621631aFmt
