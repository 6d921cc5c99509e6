/- THE LAWS' WALKS. -/
import Derived.Test.Qxb6621631aFmtChecks
import Derived.Lib.Strings
namespace Go.Proofs.Qxb6621631aFmt
open Go.RowKit Go.Extern.Stop Go.Stop Go.Extern

theorem lock_ok (s t : ByteArray) (w : World) (hs : s.size ≤ 1048576) (ht : t.size ≤ 1048576) (h : nameB s = true) (h' : nameB t = true) : Calls Tryf.prog 15 #[.string s, .string t] w fun e w' => e = .returned .nilIface ∧ w = w' := by
  have H := hide h
  have H' := hide h'
  clear h h'
  go_enter Tryf.func15, Tryf.ntmps15
  go_wp2_with fail
  refine (name_ok s w hs H.out).mono ?_
  rintro e w' ⟨rfl, rfl⟩
  go_wp2_with fail
  refine (name_ok t w ht H'.out).mono ?_
  rintro e w' ⟨rfl, rfl⟩
  go_wp2
  go_ret
  exact ⟨rfl, rfl⟩

set_option maxHeartbeats 1000000 in
theorem lock_bad (F : Interp) (s t : ByteArray) (w : World) (hF : F.answers w.tape) (hs : s.size ≤ 1048576) (ht : t.size ≤ 1048576) (h : (nameB s && nameB t) = false) : Calls Tryf.prog 15 #[.string s, .string t] w fun e w' => Errs w w' e := by
  have HF := hide hF
  clear hF
  by_cases h1 : nameB s = true
  · have h2 : nameB t = false := by rw [h1, Bool.true_and] at h; exact h
    have H := hide h1
    have H' := hide h2
    clear h h1 h2
    go_enter Tryf.func15, Tryf.ntmps15
    go_wp2_with fail
    refine (name_ok s w hs H.out).mono ?_
    rintro e w' ⟨rfl, rfl⟩
    go_wp2_with fail
    refine (name_bad F t w HF.out ht H'.out).mono ?_
    rintro e w1 ⟨⟨v, rfl, hv⟩, hb⟩
    have HT : Hid (F.answers w1.tape) := by show F.answers w1.tape; rw [hb.tape]; exact HF.out
    have HB := hide hb
    obtain ⟨T, a, t, rfl, hT, hc⟩ := hv
    have HV : Hid (IsErr w1 (.iface T (.pointer (some a)))) := ⟨T, a, t, rfl, hT, hc⟩
    clear hb hT hc
    go_wp2_with fail
    refine (errorf_resource F w1.heap.size (.iface T (.pointer (some a))) _ (by exact HT.out) (by simp) (iserr_below HV.out ((Below.refl _ _).alloc (Nat.le_refl _) _))).mono ?_
    rintro e w' he'
    obtain ⟨⟨v, rfl, hv⟩, hb⟩ := Errs.behind he'
    have HV2 := hide hv
    have HB2 := hide hb
    clear hv hb he'
    go_wp2
    go_ret
    exact ⟨⟨_, rfl, HV2.out⟩, HB.out.trans (HB2.out.mono HB.out.size)⟩
  · have h1' : nameB s = false := by simpa using h1
    have H := hide h1'
    clear h h1 h1'
    go_enter Tryf.func15, Tryf.ntmps15
    go_wp2_with fail
    refine (name_bad F s w HF.out hs H.out).mono ?_
    rintro e w1 ⟨⟨v, rfl, hv⟩, hb⟩
    have HT : Hid (F.answers w1.tape) := by show F.answers w1.tape; rw [hb.tape]; exact HF.out
    have HB := hide hb
    obtain ⟨T, a, t, rfl, hT, hc⟩ := hv
    have HV : Hid (IsErr w1 (.iface T (.pointer (some a)))) := ⟨T, a, t, rfl, hT, hc⟩
    clear hb hT hc
    go_wp2_with fail
    refine (errorf_table F w1.heap.size (.iface T (.pointer (some a))) _ (by exact HT.out) (by simp) (iserr_below HV.out ((Below.refl _ _).alloc (Nat.le_refl _) _))).mono ?_
    rintro e w' he'
    obtain ⟨⟨v, rfl, hv⟩, hb⟩ := Errs.behind he'
    have HV2 := hide hv
    have HB2 := hide hb
    clear hv hb he'
    go_wp2
    go_ret
    exact ⟨⟨_, rfl, HV2.out⟩, HB.out.trans (HB2.out.mono HB.out.size)⟩

/-! ### The bounds -/
theorem bound11_yes (s : ByteArray) (w : World) (h : s.size ≤ 1048576) : Calls Tryf.prog 11 #[.string s] w fun e w' => e = .returned (.bool true) ∧ w = w' := by
  go_enter Tryf.func11, Tryf.ntmps11
  go_wp2
  go_ret
  exact ⟨rfl, rfl⟩
theorem bound11_no (s : ByteArray) (w : World) (hs : s.size ≤ maxLen) (h : ¬ s.size ≤ 1048576) : Calls Tryf.prog 11 #[.string s] w fun e w' => e = .returned (.bool false) ∧ w = w' := by
  unfold maxLen at hs
  go_enter Tryf.func11, Tryf.ntmps11
  go_wp2
  go_ret
  exact ⟨rfl, rfl⟩
theorem bound13_yes (s : ByteArray) (i : Int) (w : World) (h : s.size ≤ 1048576) : Calls Tryf.prog 13 #[.string s, .int .i64 i] w fun e w' => e = .returned (.bool true) ∧ w = w' := by
  go_enter Tryf.func13, Tryf.ntmps13
  go_wp2
  go_ret
  exact ⟨rfl, rfl⟩
theorem bound13_no (s : ByteArray) (i : Int) (w : World) (hs : s.size ≤ maxLen) (h : ¬ s.size ≤ 1048576) : Calls Tryf.prog 13 #[.string s, .int .i64 i] w fun e w' => e = .returned (.bool false) ∧ w = w' := by
  unfold maxLen at hs
  go_enter Tryf.func13, Tryf.ntmps13
  go_wp2
  go_ret
  exact ⟨rfl, rfl⟩
theorem bound14_yes (s t : ByteArray) (w : World) (h : s.size + t.size ≤ 1048576) : Calls Tryf.prog 14 #[.string s, .string t] w fun e w' => e = .returned (.bool true) ∧ w = w' := by
  go_enter Tryf.func14, Tryf.ntmps14
  go_wp2
  go_ret
  exact ⟨rfl, rfl⟩
theorem bound14_no (s t : ByteArray) (w : World) (hs : s.size ≤ maxLen) (ht : t.size ≤ maxLen) (h : ¬ s.size + t.size ≤ 1048576) : Calls Tryf.prog 14 #[.string s, .string t] w fun e w' => e = .returned (.bool false) ∧ w = w' := by
  unfold maxLen at hs ht
  by_cases h1 : 1048576 < s.size
  · go_enter Tryf.func14, Tryf.ntmps14
    go_wp2
    go_ret
    exact ⟨rfl, rfl⟩
  by_cases h2 : 1048576 < t.size
  · go_enter Tryf.func14, Tryf.ntmps14
    go_wp2
    go_ret
    exact ⟨rfl, rfl⟩
  · go_enter Tryf.func14, Tryf.ntmps14
    go_wp2
    go_ret
    exact ⟨rfl, rfl⟩

/-! ### The plain laws -/
theorem word_parts (s : ByteArray) (max : Int) : wordB s max = (decide (1 ≤ s.size) && decide ((s.size : Int) ≤ max) && okAll s) := rfl
theorem word_own (s : ByteArray) : wordB s (s.size : Int) = (decide (1 ≤ s.size) && okAll s) := by
  rw [word_parts, decide_eq_true (Int.le_refl _), Bool.and_true]
theorem okAll_append (a b : ByteArray) : okAll (a ++ b) = (okAll a && okAll b) := by
  unfold okAll
  simp [List.all_append]
theorem okAll_cut (s : ByteArray) (i : Nat) : okAll s = (okAll (s.extract 0 i) && okAll (s.extract i s.size)) := by
  have h1 : (s.extract 0 i).data.toList = s.data.toList.take i := by rw [Lib.extract_data]; simp
  have h2 : (s.extract i s.size).data.toList = s.data.toList.drop i := by
    rw [Lib.extract_data]
    have : s.size = s.data.toList.length := by simp
    rw [this, List.take_of_length_le (by simp)]
  unfold okAll
  rw [h1, h2, ← List.all_append, List.take_append_drop]

set_option linter.unusedVariables false

theorem law5_long (s : ByteArray) (w : World) (hs : s.size ≤ maxLen) (h : ¬ s.size ≤ 1048576) :
    Calls Tryf.prog 5 #[.string s] w fun e w' => e = .returned (.bool true) ∧ Below w.heap.size w w' := by
  go_enter Tryf.func5, Tryf.ntmps5
  go_wp2_with (go_at_call 11; refine (bound11_no _ _ hs h).mono ?_; rintro e w' ⟨rfl, rfl⟩)
  go_ret
  exact ⟨rfl, Below.refl _ _⟩

set_option maxHeartbeats 1000000 in
theorem law5_ok (F : Interp) (s : ByteArray) (w : World) (hF : F.answers w.tape) (hs : s.size ≤ 1048576) (h1 : wordB s 64 = true) (h2 : wordB s (s.size : Int) = true) (l1 : 1 ≤ s.size) (l2 : s.size ≤ 64) :
    Calls Tryf.prog 5 #[.string s] w fun e w' => e = .returned (.bool true) ∧ Below w.heap.size w w' := by
  have HF := hide hF
  clear hF
  have H1 := hide h1
  have H2 := hide h2
  clear h1 h2
  go_enter Tryf.func5, Tryf.ntmps5
  go_wp2_with (go_at_call 11; refine (bound11_yes _ _ hs).mono ?_; rintro e w' ⟨rfl, rfl⟩)
  refine (name_ok s w hs H1.out).mono ?_
  rintro e w' ⟨rfl, rfl⟩
  go_wp2_with fail
  refine (word_ok s 64 w hs H1.out).mono ?_
  rintro e w' ⟨rfl, rfl⟩
  go_wp2_with fail
  refine (word_ok s (s.size : Int) w hs H2.out).mono ?_
  rintro e w' ⟨rfl, rfl⟩
  go_wp2
  all_goals (go_ret; exact ⟨rfl, Below.refl _ _⟩)

set_option maxHeartbeats 1000000 in
theorem law5_far (F : Interp) (s : ByteArray) (w : World) (hF : F.answers w.tape) (hs : s.size ≤ 1048576) (h1 : wordB s 64 = false) (h2 : wordB s (s.size : Int) = true) (l1 : 1 ≤ s.size) (l2 : 64 < s.size) :
    Calls Tryf.prog 5 #[.string s] w fun e w' => e = .returned (.bool true) ∧ Below w.heap.size w w' := by
  have HF := hide hF
  clear hF
  have H1 := hide h1
  have H2 := hide h2
  clear h1 h2
  go_enter Tryf.func5, Tryf.ntmps5
  go_wp2_with (go_at_call 11; refine (bound11_yes _ _ hs).mono ?_; rintro e w' ⟨rfl, rfl⟩)
  refine (name_bad F s w (by exact HF.out) hs H1.out).mono ?_
  rintro e w1 ⟨⟨v, rfl, hv⟩, hb⟩
  obtain ⟨T, ad, tx, rfl, _, _⟩ := hv
  have HF1 : Hid (F.answers w1.tape) := by show F.answers w1.tape; rw [hb.tape]; exact HF.out
  have HB1 : Hid (Below w.heap.size w w1) := hb
  clear hb
  go_wp2_with fail
  refine (word_bad F s 64 w1 (by exact HF1.out) hs H1.out).mono ?_
  rintro e w2 ⟨⟨v, rfl, hv⟩, hb⟩
  obtain ⟨T, ad, tx, rfl, _, _⟩ := hv
  have HF2 : Hid (F.answers w2.tape) := by show F.answers w2.tape; rw [hb.tape]; exact HF1.out
  have HB2 : Hid (Below w.heap.size w w2) := HB1.out.trans (hb.mono HB1.out.size)
  clear hb
  go_wp2_with fail
  refine (word_ok s (s.size : Int) w2 hs H2.out).mono ?_
  rintro e w' ⟨rfl, rfl⟩
  go_wp2
  all_goals (go_ret; exact ⟨rfl, HB2.out⟩)

set_option maxHeartbeats 1000000 in
theorem law5_bad (F : Interp) (s : ByteArray) (w : World) (hF : F.answers w.tape) (hs : s.size ≤ 1048576) (h1 : wordB s 64 = false) (h2 : wordB s (s.size : Int) = false) :
    Calls Tryf.prog 5 #[.string s] w fun e w' => e = .returned (.bool true) ∧ Below w.heap.size w w' := by
  have HF := hide hF
  clear hF
  have H1 := hide h1
  have H2 := hide h2
  clear h1 h2
  go_enter Tryf.func5, Tryf.ntmps5
  go_wp2_with (go_at_call 11; refine (bound11_yes _ _ hs).mono ?_; rintro e w' ⟨rfl, rfl⟩)
  refine (name_bad F s w (by exact HF.out) hs H1.out).mono ?_
  rintro e w1 ⟨⟨v, rfl, hv⟩, hb⟩
  obtain ⟨T, ad, tx, rfl, _, _⟩ := hv
  have HF1 : Hid (F.answers w1.tape) := by show F.answers w1.tape; rw [hb.tape]; exact HF.out
  have HB1 : Hid (Below w.heap.size w w1) := hb
  clear hb
  go_wp2_with fail
  refine (word_bad F s 64 w1 (by exact HF1.out) hs H1.out).mono ?_
  rintro e w2 ⟨⟨v, rfl, hv⟩, hb⟩
  obtain ⟨T, ad, tx, rfl, _, _⟩ := hv
  have HF2 : Hid (F.answers w2.tape) := by show F.answers w2.tape; rw [hb.tape]; exact HF1.out
  have HB2 : Hid (Below w.heap.size w w2) := HB1.out.trans (hb.mono HB1.out.size)
  clear hb
  go_wp2_with fail
  refine (word_bad F s (s.size : Int) w2 (by exact HF2.out) hs H2.out).mono ?_
  rintro e w3 ⟨⟨v, rfl, hv⟩, hb⟩
  obtain ⟨T, ad, tx, rfl, _, _⟩ := hv
  have HF3 : Hid (F.answers w3.tape) := by show F.answers w3.tape; rw [hb.tape]; exact HF2.out
  have HB3 : Hid (Below w.heap.size w w3) := HB2.out.trans (hb.mono HB2.out.size)
  clear hb
  go_wp2
  all_goals (go_ret; exact ⟨rfl, HB3.out⟩)

end Go.Proofs.Qxb6621631aFmt
