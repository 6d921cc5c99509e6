/- A LAW's WALKS. -/
import Derived.Test.Qxb6621631aFmtLawA
namespace Go.Proofs.Qxb6621631aFmt
open Go.RowKit Go.Extern.Stop Go.Stop Go.Extern
set_option linter.unusedVariables false

theorem law7_long (s t : ByteArray) (w : World) (hs : s.size ≤ maxLen) (ht : t.size ≤ maxLen) (h : ¬ (s.size ≤ 524288 ∧ t.size ≤ 524288)) :
    Calls Tryf.prog 7 #[.string s, .string t] w fun e w' => e = .returned (.bool true) ∧ Below w.heap.size w w' := by
  by_cases hb : s.size + t.size ≤ 1048576
  · rcases (show 524288 < s.size ∨ (s.size ≤ 524288 ∧ 524288 < t.size) by omega) with h1 | ⟨h1, h2⟩
    all_goals
      clear h
      go_enter Tryf.func7, Tryf.ntmps7
      go_wp2_with (go_at_call 14; refine (bound14_yes _ _ _ hb).mono ?_; rintro e w' ⟨rfl, rfl⟩)
      go_ret
      exact ⟨rfl, Below.refl _ _⟩
  · go_enter Tryf.func7, Tryf.ntmps7
    go_wp2_with (go_at_call 14; refine (bound14_no _ _ _ hs ht hb).mono ?_; rintro e w' ⟨rfl, rfl⟩)
    go_ret
    exact ⟨rfl, Below.refl _ _⟩

set_option maxHeartbeats 2000000 in
theorem law7_ttt (F : Interp) (s t : ByteArray) (w : World) (hF : F.answers w.tape) (hs : s.size ≤ 524288) (ht : t.size ≤ 524288) (h1 : nameB s = true) (h2 : nameB t = true) (h3 : wordB (s ++ t) ((s.size : Int) + (t.size : Int)) = true) (l1 : 1 ≤ s.size) (l2 : s.size ≤ 64) (l3 : 1 ≤ t.size) (l4 : t.size ≤ 64) :
    Calls Tryf.prog 7 #[.string s, .string t] w fun e w' => e = .returned (.bool true) ∧ Below w.heap.size w w' := by
  have HF := hide hF
  clear hF
  have hb : s.size + t.size ≤ 1048576 := by omega
  have HS : Hid (s.size ≤ 1048576) := by show s.size ≤ 1048576; omega
  have HT : Hid (t.size ≤ 1048576) := by show t.size ≤ 1048576; omega
  have HST : Hid ((s ++ t).size ≤ 1048576) := by show (s ++ t).size ≤ 1048576; rw [ByteArray.size_append]; omega
  have H1 := hide h1
  have H2 := hide h2
  have H3 := hide h3
  clear h1 h2 h3
  go_enter Tryf.func7, Tryf.ntmps7
  go_wp2_with (go_at_call 14; refine (bound14_yes _ _ _ hb).mono ?_; rintro e w' ⟨rfl, rfl⟩)
  refine (lock_ok s t w HS.out HT.out H1.out H2.out).mono ?_
  rintro e w' ⟨rfl, rfl⟩
  go_wp2_with fail
  refine (name_ok s w HS.out H1.out).mono ?_
  rintro e w' ⟨rfl, rfl⟩
  go_wp2_with fail
  refine (name_ok t w HT.out H2.out).mono ?_
  rintro e w' ⟨rfl, rfl⟩
  go_wp2_with fail
  refine (word_ok (s ++ t) ((s.size : Int) + (t.size : Int)) w HST.out H3.out).mono ?_
  rintro e w' ⟨rfl, rfl⟩
  go_wp2
  all_goals (go_ret; exact ⟨rfl, Below.refl _ _⟩)

set_option maxHeartbeats 2000000 in
theorem law7_tff (F : Interp) (s t : ByteArray) (w : World) (hF : F.answers w.tape) (hs : s.size ≤ 524288) (ht : t.size ≤ 524288) (h1 : nameB s = true) (h2 : nameB t = false) (h3 : wordB (s ++ t) ((s.size : Int) + (t.size : Int)) = false) :
    Calls Tryf.prog 7 #[.string s, .string t] w fun e w' => e = .returned (.bool true) ∧ Below w.heap.size w w' := by
  have HF := hide hF
  clear hF
  have hb : s.size + t.size ≤ 1048576 := by omega
  have HS : Hid (s.size ≤ 1048576) := by show s.size ≤ 1048576; omega
  have HT : Hid (t.size ≤ 1048576) := by show t.size ≤ 1048576; omega
  have HST : Hid ((s ++ t).size ≤ 1048576) := by show (s ++ t).size ≤ 1048576; rw [ByteArray.size_append]; omega
  have HL : Hid ((nameB s && nameB t) = false) := by show (nameB s && nameB t) = false; rw [h1, h2]; rfl
  have H1 := hide h1
  have H2 := hide h2
  have H3 := hide h3
  clear h1 h2 h3
  go_enter Tryf.func7, Tryf.ntmps7
  go_wp2_with (go_at_call 14; refine (bound14_yes _ _ _ hb).mono ?_; rintro e w' ⟨rfl, rfl⟩)
  refine (lock_bad F s t w (by exact HF.out) HS.out HT.out HL.out).mono ?_
  rintro e w1 ⟨⟨v, rfl, hv⟩, hb⟩
  obtain ⟨T, ad, tx, rfl, _, _⟩ := hv
  have HF1 : Hid (F.answers w1.tape) := by show F.answers w1.tape; rw [hb.tape]; exact HF.out
  have HB1 : Hid (Below w.heap.size w w1) := hb
  clear hb
  go_wp2_with fail
  refine (name_ok s w1 HS.out H1.out).mono ?_
  rintro e w' ⟨rfl, rfl⟩
  go_wp2_with fail
  refine (name_bad F t w1 (by exact HF1.out) HT.out H2.out).mono ?_
  rintro e w2 ⟨⟨v, rfl, hv⟩, hb⟩
  obtain ⟨T, ad, tx, rfl, _, _⟩ := hv
  have HF2 : Hid (F.answers w2.tape) := by show F.answers w2.tape; rw [hb.tape]; exact HF1.out
  have HB2 : Hid (Below w.heap.size w w2) := HB1.out.trans (hb.mono HB1.out.size)
  clear hb
  go_wp2_with fail
  refine (word_bad F (s ++ t) ((s.size : Int) + (t.size : Int)) w2 (by exact HF2.out) HST.out H3.out).mono ?_
  rintro e w3 ⟨⟨v, rfl, hv⟩, hb⟩
  obtain ⟨T, ad, tx, rfl, _, _⟩ := hv
  have HF3 : Hid (F.answers w3.tape) := by show F.answers w3.tape; rw [hb.tape]; exact HF2.out
  have HB3 : Hid (Below w.heap.size w w3) := HB2.out.trans (hb.mono HB2.out.size)
  clear hb
  go_wp2
  all_goals (go_ret; exact ⟨rfl, HB3.out⟩)

set_option maxHeartbeats 2000000 in
theorem law7_tft0 (F : Interp) (s t : ByteArray) (w : World) (hF : F.answers w.tape) (hs : s.size ≤ 524288) (ht : t.size ≤ 524288) (h1 : nameB s = true) (h2 : nameB t = false) (h3 : wordB (s ++ t) ((s.size : Int) + (t.size : Int)) = true) (l : s.size < 1) :
    Calls Tryf.prog 7 #[.string s, .string t] w fun e w' => e = .returned (.bool true) ∧ Below w.heap.size w w' := by
  have HF := hide hF
  clear hF
  have hb : s.size + t.size ≤ 1048576 := by omega
  have HS : Hid (s.size ≤ 1048576) := by show s.size ≤ 1048576; omega
  have HT : Hid (t.size ≤ 1048576) := by show t.size ≤ 1048576; omega
  have HST : Hid ((s ++ t).size ≤ 1048576) := by show (s ++ t).size ≤ 1048576; rw [ByteArray.size_append]; omega
  have HL : Hid ((nameB s && nameB t) = false) := by show (nameB s && nameB t) = false; rw [h1, h2]; rfl
  have H1 := hide h1
  have H2 := hide h2
  have H3 := hide h3
  clear h1 h2 h3
  go_enter Tryf.func7, Tryf.ntmps7
  go_wp2_with (go_at_call 14; refine (bound14_yes _ _ _ hb).mono ?_; rintro e w' ⟨rfl, rfl⟩)
  refine (lock_bad F s t w (by exact HF.out) HS.out HT.out HL.out).mono ?_
  rintro e w1 ⟨⟨v, rfl, hv⟩, hb⟩
  obtain ⟨T, ad, tx, rfl, _, _⟩ := hv
  have HF1 : Hid (F.answers w1.tape) := by show F.answers w1.tape; rw [hb.tape]; exact HF.out
  have HB1 : Hid (Below w.heap.size w w1) := hb
  clear hb
  go_wp2_with fail
  refine (name_ok s w1 HS.out H1.out).mono ?_
  rintro e w' ⟨rfl, rfl⟩
  go_wp2_with fail
  refine (name_bad F t w1 (by exact HF1.out) HT.out H2.out).mono ?_
  rintro e w2 ⟨⟨v, rfl, hv⟩, hb⟩
  obtain ⟨T, ad, tx, rfl, _, _⟩ := hv
  have HF2 : Hid (F.answers w2.tape) := by show F.answers w2.tape; rw [hb.tape]; exact HF1.out
  have HB2 : Hid (Below w.heap.size w w2) := HB1.out.trans (hb.mono HB1.out.size)
  clear hb
  go_wp2_with fail
  refine (word_ok (s ++ t) ((s.size : Int) + (t.size : Int)) w2 HST.out H3.out).mono ?_
  rintro e w' ⟨rfl, rfl⟩
  go_wp2
  all_goals (go_ret; exact ⟨rfl, HB2.out⟩)

set_option maxHeartbeats 2000000 in
theorem law7_tft1 (F : Interp) (s t : ByteArray) (w : World) (hF : F.answers w.tape) (hs : s.size ≤ 524288) (ht : t.size ≤ 524288) (h1 : nameB s = true) (h2 : nameB t = false) (h3 : wordB (s ++ t) ((s.size : Int) + (t.size : Int)) = true) (l : 64 < s.size) :
    Calls Tryf.prog 7 #[.string s, .string t] w fun e w' => e = .returned (.bool true) ∧ Below w.heap.size w w' := by
  have HF := hide hF
  clear hF
  have hb : s.size + t.size ≤ 1048576 := by omega
  have HS : Hid (s.size ≤ 1048576) := by show s.size ≤ 1048576; omega
  have HT : Hid (t.size ≤ 1048576) := by show t.size ≤ 1048576; omega
  have HST : Hid ((s ++ t).size ≤ 1048576) := by show (s ++ t).size ≤ 1048576; rw [ByteArray.size_append]; omega
  have HL : Hid ((nameB s && nameB t) = false) := by show (nameB s && nameB t) = false; rw [h1, h2]; rfl
  have H1 := hide h1
  have H2 := hide h2
  have H3 := hide h3
  clear h1 h2 h3
  go_enter Tryf.func7, Tryf.ntmps7
  go_wp2_with (go_at_call 14; refine (bound14_yes _ _ _ hb).mono ?_; rintro e w' ⟨rfl, rfl⟩)
  refine (lock_bad F s t w (by exact HF.out) HS.out HT.out HL.out).mono ?_
  rintro e w1 ⟨⟨v, rfl, hv⟩, hb⟩
  obtain ⟨T, ad, tx, rfl, _, _⟩ := hv
  have HF1 : Hid (F.answers w1.tape) := by show F.answers w1.tape; rw [hb.tape]; exact HF.out
  have HB1 : Hid (Below w.heap.size w w1) := hb
  clear hb
  go_wp2_with fail
  refine (name_ok s w1 HS.out H1.out).mono ?_
  rintro e w' ⟨rfl, rfl⟩
  go_wp2_with fail
  refine (name_bad F t w1 (by exact HF1.out) HT.out H2.out).mono ?_
  rintro e w2 ⟨⟨v, rfl, hv⟩, hb⟩
  obtain ⟨T, ad, tx, rfl, _, _⟩ := hv
  have HF2 : Hid (F.answers w2.tape) := by show F.answers w2.tape; rw [hb.tape]; exact HF1.out
  have HB2 : Hid (Below w.heap.size w w2) := HB1.out.trans (hb.mono HB1.out.size)
  clear hb
  go_wp2_with fail
  refine (word_ok (s ++ t) ((s.size : Int) + (t.size : Int)) w2 HST.out H3.out).mono ?_
  rintro e w' ⟨rfl, rfl⟩
  go_wp2
  all_goals (go_ret; exact ⟨rfl, HB2.out⟩)

set_option maxHeartbeats 2000000 in
theorem law7_tft2 (F : Interp) (s t : ByteArray) (w : World) (hF : F.answers w.tape) (hs : s.size ≤ 524288) (ht : t.size ≤ 524288) (h1 : nameB s = true) (h2 : nameB t = false) (h3 : wordB (s ++ t) ((s.size : Int) + (t.size : Int)) = true) (l : t.size < 1) :
    Calls Tryf.prog 7 #[.string s, .string t] w fun e w' => e = .returned (.bool true) ∧ Below w.heap.size w w' := by
  have HF := hide hF
  clear hF
  have hb : s.size + t.size ≤ 1048576 := by omega
  have HS : Hid (s.size ≤ 1048576) := by show s.size ≤ 1048576; omega
  have HT : Hid (t.size ≤ 1048576) := by show t.size ≤ 1048576; omega
  have HST : Hid ((s ++ t).size ≤ 1048576) := by show (s ++ t).size ≤ 1048576; rw [ByteArray.size_append]; omega
  have HL : Hid ((nameB s && nameB t) = false) := by show (nameB s && nameB t) = false; rw [h1, h2]; rfl
  have H1 := hide h1
  have H2 := hide h2
  have H3 := hide h3
  clear h1 h2 h3
  go_enter Tryf.func7, Tryf.ntmps7
  go_wp2_with (go_at_call 14; refine (bound14_yes _ _ _ hb).mono ?_; rintro e w' ⟨rfl, rfl⟩)
  refine (lock_bad F s t w (by exact HF.out) HS.out HT.out HL.out).mono ?_
  rintro e w1 ⟨⟨v, rfl, hv⟩, hb⟩
  obtain ⟨T, ad, tx, rfl, _, _⟩ := hv
  have HF1 : Hid (F.answers w1.tape) := by show F.answers w1.tape; rw [hb.tape]; exact HF.out
  have HB1 : Hid (Below w.heap.size w w1) := hb
  clear hb
  go_wp2_with fail
  refine (name_ok s w1 HS.out H1.out).mono ?_
  rintro e w' ⟨rfl, rfl⟩
  go_wp2_with fail
  refine (name_bad F t w1 (by exact HF1.out) HT.out H2.out).mono ?_
  rintro e w2 ⟨⟨v, rfl, hv⟩, hb⟩
  obtain ⟨T, ad, tx, rfl, _, _⟩ := hv
  have HF2 : Hid (F.answers w2.tape) := by show F.answers w2.tape; rw [hb.tape]; exact HF1.out
  have HB2 : Hid (Below w.heap.size w w2) := HB1.out.trans (hb.mono HB1.out.size)
  clear hb
  go_wp2_with fail
  refine (word_ok (s ++ t) ((s.size : Int) + (t.size : Int)) w2 HST.out H3.out).mono ?_
  rintro e w' ⟨rfl, rfl⟩
  go_wp2
  all_goals (go_ret; exact ⟨rfl, HB2.out⟩)

set_option maxHeartbeats 2000000 in
theorem law7_tft3 (F : Interp) (s t : ByteArray) (w : World) (hF : F.answers w.tape) (hs : s.size ≤ 524288) (ht : t.size ≤ 524288) (h1 : nameB s = true) (h2 : nameB t = false) (h3 : wordB (s ++ t) ((s.size : Int) + (t.size : Int)) = true) (l : 64 < t.size) :
    Calls Tryf.prog 7 #[.string s, .string t] w fun e w' => e = .returned (.bool true) ∧ Below w.heap.size w w' := by
  have HF := hide hF
  clear hF
  have hb : s.size + t.size ≤ 1048576 := by omega
  have HS : Hid (s.size ≤ 1048576) := by show s.size ≤ 1048576; omega
  have HT : Hid (t.size ≤ 1048576) := by show t.size ≤ 1048576; omega
  have HST : Hid ((s ++ t).size ≤ 1048576) := by show (s ++ t).size ≤ 1048576; rw [ByteArray.size_append]; omega
  have HL : Hid ((nameB s && nameB t) = false) := by show (nameB s && nameB t) = false; rw [h1, h2]; rfl
  have H1 := hide h1
  have H2 := hide h2
  have H3 := hide h3
  clear h1 h2 h3
  go_enter Tryf.func7, Tryf.ntmps7
  go_wp2_with (go_at_call 14; refine (bound14_yes _ _ _ hb).mono ?_; rintro e w' ⟨rfl, rfl⟩)
  refine (lock_bad F s t w (by exact HF.out) HS.out HT.out HL.out).mono ?_
  rintro e w1 ⟨⟨v, rfl, hv⟩, hb⟩
  obtain ⟨T, ad, tx, rfl, _, _⟩ := hv
  have HF1 : Hid (F.answers w1.tape) := by show F.answers w1.tape; rw [hb.tape]; exact HF.out
  have HB1 : Hid (Below w.heap.size w w1) := hb
  clear hb
  go_wp2_with fail
  refine (name_ok s w1 HS.out H1.out).mono ?_
  rintro e w' ⟨rfl, rfl⟩
  go_wp2_with fail
  refine (name_bad F t w1 (by exact HF1.out) HT.out H2.out).mono ?_
  rintro e w2 ⟨⟨v, rfl, hv⟩, hb⟩
  obtain ⟨T, ad, tx, rfl, _, _⟩ := hv
  have HF2 : Hid (F.answers w2.tape) := by show F.answers w2.tape; rw [hb.tape]; exact HF1.out
  have HB2 : Hid (Below w.heap.size w w2) := HB1.out.trans (hb.mono HB1.out.size)
  clear hb
  go_wp2_with fail
  refine (word_ok (s ++ t) ((s.size : Int) + (t.size : Int)) w2 HST.out H3.out).mono ?_
  rintro e w' ⟨rfl, rfl⟩
  go_wp2
  all_goals (go_ret; exact ⟨rfl, HB2.out⟩)

set_option maxHeartbeats 2000000 in
theorem law7_ftf (F : Interp) (s t : ByteArray) (w : World) (hF : F.answers w.tape) (hs : s.size ≤ 524288) (ht : t.size ≤ 524288) (h1 : nameB s = false) (h2 : nameB t = true) (h3 : wordB (s ++ t) ((s.size : Int) + (t.size : Int)) = false) :
    Calls Tryf.prog 7 #[.string s, .string t] w fun e w' => e = .returned (.bool true) ∧ Below w.heap.size w w' := by
  have HF := hide hF
  clear hF
  have hb : s.size + t.size ≤ 1048576 := by omega
  have HS : Hid (s.size ≤ 1048576) := by show s.size ≤ 1048576; omega
  have HT : Hid (t.size ≤ 1048576) := by show t.size ≤ 1048576; omega
  have HST : Hid ((s ++ t).size ≤ 1048576) := by show (s ++ t).size ≤ 1048576; rw [ByteArray.size_append]; omega
  have HL : Hid ((nameB s && nameB t) = false) := by show (nameB s && nameB t) = false; rw [h1, h2]; rfl
  have H1 := hide h1
  have H2 := hide h2
  have H3 := hide h3
  clear h1 h2 h3
  go_enter Tryf.func7, Tryf.ntmps7
  go_wp2_with (go_at_call 14; refine (bound14_yes _ _ _ hb).mono ?_; rintro e w' ⟨rfl, rfl⟩)
  refine (lock_bad F s t w (by exact HF.out) HS.out HT.out HL.out).mono ?_
  rintro e w1 ⟨⟨v, rfl, hv⟩, hb⟩
  obtain ⟨T, ad, tx, rfl, _, _⟩ := hv
  have HF1 : Hid (F.answers w1.tape) := by show F.answers w1.tape; rw [hb.tape]; exact HF.out
  have HB1 : Hid (Below w.heap.size w w1) := hb
  clear hb
  go_wp2_with fail
  refine (name_bad F s w1 (by exact HF1.out) HS.out H1.out).mono ?_
  rintro e w2 ⟨⟨v, rfl, hv⟩, hb⟩
  obtain ⟨T, ad, tx, rfl, _, _⟩ := hv
  have HF2 : Hid (F.answers w2.tape) := by show F.answers w2.tape; rw [hb.tape]; exact HF1.out
  have HB2 : Hid (Below w.heap.size w w2) := HB1.out.trans (hb.mono HB1.out.size)
  clear hb
  go_wp2_with fail
  refine (name_ok t w2 HT.out H2.out).mono ?_
  rintro e w' ⟨rfl, rfl⟩
  go_wp2_with fail
  refine (word_bad F (s ++ t) ((s.size : Int) + (t.size : Int)) w2 (by exact HF2.out) HST.out H3.out).mono ?_
  rintro e w3 ⟨⟨v, rfl, hv⟩, hb⟩
  obtain ⟨T, ad, tx, rfl, _, _⟩ := hv
  have HF3 : Hid (F.answers w3.tape) := by show F.answers w3.tape; rw [hb.tape]; exact HF2.out
  have HB3 : Hid (Below w.heap.size w w3) := HB2.out.trans (hb.mono HB2.out.size)
  clear hb
  go_wp2
  all_goals (go_ret; exact ⟨rfl, HB3.out⟩)

set_option maxHeartbeats 2000000 in
theorem law7_ftt0 (F : Interp) (s t : ByteArray) (w : World) (hF : F.answers w.tape) (hs : s.size ≤ 524288) (ht : t.size ≤ 524288) (h1 : nameB s = false) (h2 : nameB t = true) (h3 : wordB (s ++ t) ((s.size : Int) + (t.size : Int)) = true) (l : s.size < 1) :
    Calls Tryf.prog 7 #[.string s, .string t] w fun e w' => e = .returned (.bool true) ∧ Below w.heap.size w w' := by
  have HF := hide hF
  clear hF
  have hb : s.size + t.size ≤ 1048576 := by omega
  have HS : Hid (s.size ≤ 1048576) := by show s.size ≤ 1048576; omega
  have HT : Hid (t.size ≤ 1048576) := by show t.size ≤ 1048576; omega
  have HST : Hid ((s ++ t).size ≤ 1048576) := by show (s ++ t).size ≤ 1048576; rw [ByteArray.size_append]; omega
  have HL : Hid ((nameB s && nameB t) = false) := by show (nameB s && nameB t) = false; rw [h1, h2]; rfl
  have H1 := hide h1
  have H2 := hide h2
  have H3 := hide h3
  clear h1 h2 h3
  go_enter Tryf.func7, Tryf.ntmps7
  go_wp2_with (go_at_call 14; refine (bound14_yes _ _ _ hb).mono ?_; rintro e w' ⟨rfl, rfl⟩)
  refine (lock_bad F s t w (by exact HF.out) HS.out HT.out HL.out).mono ?_
  rintro e w1 ⟨⟨v, rfl, hv⟩, hb⟩
  obtain ⟨T, ad, tx, rfl, _, _⟩ := hv
  have HF1 : Hid (F.answers w1.tape) := by show F.answers w1.tape; rw [hb.tape]; exact HF.out
  have HB1 : Hid (Below w.heap.size w w1) := hb
  clear hb
  go_wp2_with fail
  refine (name_bad F s w1 (by exact HF1.out) HS.out H1.out).mono ?_
  rintro e w2 ⟨⟨v, rfl, hv⟩, hb⟩
  obtain ⟨T, ad, tx, rfl, _, _⟩ := hv
  have HF2 : Hid (F.answers w2.tape) := by show F.answers w2.tape; rw [hb.tape]; exact HF1.out
  have HB2 : Hid (Below w.heap.size w w2) := HB1.out.trans (hb.mono HB1.out.size)
  clear hb
  go_wp2_with fail
  refine (name_ok t w2 HT.out H2.out).mono ?_
  rintro e w' ⟨rfl, rfl⟩
  go_wp2_with fail
  refine (word_ok (s ++ t) ((s.size : Int) + (t.size : Int)) w2 HST.out H3.out).mono ?_
  rintro e w' ⟨rfl, rfl⟩
  go_wp2
  all_goals (go_ret; exact ⟨rfl, HB2.out⟩)

set_option maxHeartbeats 2000000 in
theorem law7_ftt1 (F : Interp) (s t : ByteArray) (w : World) (hF : F.answers w.tape) (hs : s.size ≤ 524288) (ht : t.size ≤ 524288) (h1 : nameB s = false) (h2 : nameB t = true) (h3 : wordB (s ++ t) ((s.size : Int) + (t.size : Int)) = true) (l : 64 < s.size) :
    Calls Tryf.prog 7 #[.string s, .string t] w fun e w' => e = .returned (.bool true) ∧ Below w.heap.size w w' := by
  have HF := hide hF
  clear hF
  have hb : s.size + t.size ≤ 1048576 := by omega
  have HS : Hid (s.size ≤ 1048576) := by show s.size ≤ 1048576; omega
  have HT : Hid (t.size ≤ 1048576) := by show t.size ≤ 1048576; omega
  have HST : Hid ((s ++ t).size ≤ 1048576) := by show (s ++ t).size ≤ 1048576; rw [ByteArray.size_append]; omega
  have HL : Hid ((nameB s && nameB t) = false) := by show (nameB s && nameB t) = false; rw [h1, h2]; rfl
  have H1 := hide h1
  have H2 := hide h2
  have H3 := hide h3
  clear h1 h2 h3
  go_enter Tryf.func7, Tryf.ntmps7
  go_wp2_with (go_at_call 14; refine (bound14_yes _ _ _ hb).mono ?_; rintro e w' ⟨rfl, rfl⟩)
  refine (lock_bad F s t w (by exact HF.out) HS.out HT.out HL.out).mono ?_
  rintro e w1 ⟨⟨v, rfl, hv⟩, hb⟩
  obtain ⟨T, ad, tx, rfl, _, _⟩ := hv
  have HF1 : Hid (F.answers w1.tape) := by show F.answers w1.tape; rw [hb.tape]; exact HF.out
  have HB1 : Hid (Below w.heap.size w w1) := hb
  clear hb
  go_wp2_with fail
  refine (name_bad F s w1 (by exact HF1.out) HS.out H1.out).mono ?_
  rintro e w2 ⟨⟨v, rfl, hv⟩, hb⟩
  obtain ⟨T, ad, tx, rfl, _, _⟩ := hv
  have HF2 : Hid (F.answers w2.tape) := by show F.answers w2.tape; rw [hb.tape]; exact HF1.out
  have HB2 : Hid (Below w.heap.size w w2) := HB1.out.trans (hb.mono HB1.out.size)
  clear hb
  go_wp2_with fail
  refine (name_ok t w2 HT.out H2.out).mono ?_
  rintro e w' ⟨rfl, rfl⟩
  go_wp2_with fail
  refine (word_ok (s ++ t) ((s.size : Int) + (t.size : Int)) w2 HST.out H3.out).mono ?_
  rintro e w' ⟨rfl, rfl⟩
  go_wp2
  all_goals (go_ret; exact ⟨rfl, HB2.out⟩)

set_option maxHeartbeats 2000000 in
theorem law7_ftt2 (F : Interp) (s t : ByteArray) (w : World) (hF : F.answers w.tape) (hs : s.size ≤ 524288) (ht : t.size ≤ 524288) (h1 : nameB s = false) (h2 : nameB t = true) (h3 : wordB (s ++ t) ((s.size : Int) + (t.size : Int)) = true) (l : t.size < 1) :
    Calls Tryf.prog 7 #[.string s, .string t] w fun e w' => e = .returned (.bool true) ∧ Below w.heap.size w w' := by
  have HF := hide hF
  clear hF
  have hb : s.size + t.size ≤ 1048576 := by omega
  have HS : Hid (s.size ≤ 1048576) := by show s.size ≤ 1048576; omega
  have HT : Hid (t.size ≤ 1048576) := by show t.size ≤ 1048576; omega
  have HST : Hid ((s ++ t).size ≤ 1048576) := by show (s ++ t).size ≤ 1048576; rw [ByteArray.size_append]; omega
  have HL : Hid ((nameB s && nameB t) = false) := by show (nameB s && nameB t) = false; rw [h1, h2]; rfl
  have H1 := hide h1
  have H2 := hide h2
  have H3 := hide h3
  clear h1 h2 h3
  go_enter Tryf.func7, Tryf.ntmps7
  go_wp2_with (go_at_call 14; refine (bound14_yes _ _ _ hb).mono ?_; rintro e w' ⟨rfl, rfl⟩)
  refine (lock_bad F s t w (by exact HF.out) HS.out HT.out HL.out).mono ?_
  rintro e w1 ⟨⟨v, rfl, hv⟩, hb⟩
  obtain ⟨T, ad, tx, rfl, _, _⟩ := hv
  have HF1 : Hid (F.answers w1.tape) := by show F.answers w1.tape; rw [hb.tape]; exact HF.out
  have HB1 : Hid (Below w.heap.size w w1) := hb
  clear hb
  go_wp2_with fail
  refine (name_bad F s w1 (by exact HF1.out) HS.out H1.out).mono ?_
  rintro e w2 ⟨⟨v, rfl, hv⟩, hb⟩
  obtain ⟨T, ad, tx, rfl, _, _⟩ := hv
  have HF2 : Hid (F.answers w2.tape) := by show F.answers w2.tape; rw [hb.tape]; exact HF1.out
  have HB2 : Hid (Below w.heap.size w w2) := HB1.out.trans (hb.mono HB1.out.size)
  clear hb
  go_wp2_with fail
  refine (name_ok t w2 HT.out H2.out).mono ?_
  rintro e w' ⟨rfl, rfl⟩
  go_wp2_with fail
  refine (word_ok (s ++ t) ((s.size : Int) + (t.size : Int)) w2 HST.out H3.out).mono ?_
  rintro e w' ⟨rfl, rfl⟩
  go_wp2
  all_goals (go_ret; exact ⟨rfl, HB2.out⟩)

set_option maxHeartbeats 2000000 in
theorem law7_ftt3 (F : Interp) (s t : ByteArray) (w : World) (hF : F.answers w.tape) (hs : s.size ≤ 524288) (ht : t.size ≤ 524288) (h1 : nameB s = false) (h2 : nameB t = true) (h3 : wordB (s ++ t) ((s.size : Int) + (t.size : Int)) = true) (l : 64 < t.size) :
    Calls Tryf.prog 7 #[.string s, .string t] w fun e w' => e = .returned (.bool true) ∧ Below w.heap.size w w' := by
  have HF := hide hF
  clear hF
  have hb : s.size + t.size ≤ 1048576 := by omega
  have HS : Hid (s.size ≤ 1048576) := by show s.size ≤ 1048576; omega
  have HT : Hid (t.size ≤ 1048576) := by show t.size ≤ 1048576; omega
  have HST : Hid ((s ++ t).size ≤ 1048576) := by show (s ++ t).size ≤ 1048576; rw [ByteArray.size_append]; omega
  have HL : Hid ((nameB s && nameB t) = false) := by show (nameB s && nameB t) = false; rw [h1, h2]; rfl
  have H1 := hide h1
  have H2 := hide h2
  have H3 := hide h3
  clear h1 h2 h3
  go_enter Tryf.func7, Tryf.ntmps7
  go_wp2_with (go_at_call 14; refine (bound14_yes _ _ _ hb).mono ?_; rintro e w' ⟨rfl, rfl⟩)
  refine (lock_bad F s t w (by exact HF.out) HS.out HT.out HL.out).mono ?_
  rintro e w1 ⟨⟨v, rfl, hv⟩, hb⟩
  obtain ⟨T, ad, tx, rfl, _, _⟩ := hv
  have HF1 : Hid (F.answers w1.tape) := by show F.answers w1.tape; rw [hb.tape]; exact HF.out
  have HB1 : Hid (Below w.heap.size w w1) := hb
  clear hb
  go_wp2_with fail
  refine (name_bad F s w1 (by exact HF1.out) HS.out H1.out).mono ?_
  rintro e w2 ⟨⟨v, rfl, hv⟩, hb⟩
  obtain ⟨T, ad, tx, rfl, _, _⟩ := hv
  have HF2 : Hid (F.answers w2.tape) := by show F.answers w2.tape; rw [hb.tape]; exact HF1.out
  have HB2 : Hid (Below w.heap.size w w2) := HB1.out.trans (hb.mono HB1.out.size)
  clear hb
  go_wp2_with fail
  refine (name_ok t w2 HT.out H2.out).mono ?_
  rintro e w' ⟨rfl, rfl⟩
  go_wp2_with fail
  refine (word_ok (s ++ t) ((s.size : Int) + (t.size : Int)) w2 HST.out H3.out).mono ?_
  rintro e w' ⟨rfl, rfl⟩
  go_wp2
  all_goals (go_ret; exact ⟨rfl, HB2.out⟩)

set_option maxHeartbeats 2000000 in
theorem law7_fff (F : Interp) (s t : ByteArray) (w : World) (hF : F.answers w.tape) (hs : s.size ≤ 524288) (ht : t.size ≤ 524288) (h1 : nameB s = false) (h2 : nameB t = false) (h3 : wordB (s ++ t) ((s.size : Int) + (t.size : Int)) = false) :
    Calls Tryf.prog 7 #[.string s, .string t] w fun e w' => e = .returned (.bool true) ∧ Below w.heap.size w w' := by
  have HF := hide hF
  clear hF
  have hb : s.size + t.size ≤ 1048576 := by omega
  have HS : Hid (s.size ≤ 1048576) := by show s.size ≤ 1048576; omega
  have HT : Hid (t.size ≤ 1048576) := by show t.size ≤ 1048576; omega
  have HST : Hid ((s ++ t).size ≤ 1048576) := by show (s ++ t).size ≤ 1048576; rw [ByteArray.size_append]; omega
  have HL : Hid ((nameB s && nameB t) = false) := by show (nameB s && nameB t) = false; rw [h1, h2]; rfl
  have H1 := hide h1
  have H2 := hide h2
  have H3 := hide h3
  clear h1 h2 h3
  go_enter Tryf.func7, Tryf.ntmps7
  go_wp2_with (go_at_call 14; refine (bound14_yes _ _ _ hb).mono ?_; rintro e w' ⟨rfl, rfl⟩)
  refine (lock_bad F s t w (by exact HF.out) HS.out HT.out HL.out).mono ?_
  rintro e w1 ⟨⟨v, rfl, hv⟩, hb⟩
  obtain ⟨T, ad, tx, rfl, _, _⟩ := hv
  have HF1 : Hid (F.answers w1.tape) := by show F.answers w1.tape; rw [hb.tape]; exact HF.out
  have HB1 : Hid (Below w.heap.size w w1) := hb
  clear hb
  go_wp2_with fail
  refine (name_bad F s w1 (by exact HF1.out) HS.out H1.out).mono ?_
  rintro e w2 ⟨⟨v, rfl, hv⟩, hb⟩
  obtain ⟨T, ad, tx, rfl, _, _⟩ := hv
  have HF2 : Hid (F.answers w2.tape) := by show F.answers w2.tape; rw [hb.tape]; exact HF1.out
  have HB2 : Hid (Below w.heap.size w w2) := HB1.out.trans (hb.mono HB1.out.size)
  clear hb
  go_wp2_with fail
  refine (name_bad F t w2 (by exact HF2.out) HT.out H2.out).mono ?_
  rintro e w3 ⟨⟨v, rfl, hv⟩, hb⟩
  obtain ⟨T, ad, tx, rfl, _, _⟩ := hv
  have HF3 : Hid (F.answers w3.tape) := by show F.answers w3.tape; rw [hb.tape]; exact HF2.out
  have HB3 : Hid (Below w.heap.size w w3) := HB2.out.trans (hb.mono HB2.out.size)
  clear hb
  go_wp2_with fail
  refine (word_bad F (s ++ t) ((s.size : Int) + (t.size : Int)) w3 (by exact HF3.out) HST.out H3.out).mono ?_
  rintro e w4 ⟨⟨v, rfl, hv⟩, hb⟩
  obtain ⟨T, ad, tx, rfl, _, _⟩ := hv
  have HF4 : Hid (F.answers w4.tape) := by show F.answers w4.tape; rw [hb.tape]; exact HF3.out
  have HB4 : Hid (Below w.heap.size w w4) := HB3.out.trans (hb.mono HB3.out.size)
  clear hb
  go_wp2
  all_goals (go_ret; exact ⟨rfl, HB4.out⟩)

set_option maxHeartbeats 2000000 in
theorem law7_fft0 (F : Interp) (s t : ByteArray) (w : World) (hF : F.answers w.tape) (hs : s.size ≤ 524288) (ht : t.size ≤ 524288) (h1 : nameB s = false) (h2 : nameB t = false) (h3 : wordB (s ++ t) ((s.size : Int) + (t.size : Int)) = true) (l : s.size < 1) :
    Calls Tryf.prog 7 #[.string s, .string t] w fun e w' => e = .returned (.bool true) ∧ Below w.heap.size w w' := by
  have HF := hide hF
  clear hF
  have hb : s.size + t.size ≤ 1048576 := by omega
  have HS : Hid (s.size ≤ 1048576) := by show s.size ≤ 1048576; omega
  have HT : Hid (t.size ≤ 1048576) := by show t.size ≤ 1048576; omega
  have HST : Hid ((s ++ t).size ≤ 1048576) := by show (s ++ t).size ≤ 1048576; rw [ByteArray.size_append]; omega
  have HL : Hid ((nameB s && nameB t) = false) := by show (nameB s && nameB t) = false; rw [h1, h2]; rfl
  have H1 := hide h1
  have H2 := hide h2
  have H3 := hide h3
  clear h1 h2 h3
  go_enter Tryf.func7, Tryf.ntmps7
  go_wp2_with (go_at_call 14; refine (bound14_yes _ _ _ hb).mono ?_; rintro e w' ⟨rfl, rfl⟩)
  refine (lock_bad F s t w (by exact HF.out) HS.out HT.out HL.out).mono ?_
  rintro e w1 ⟨⟨v, rfl, hv⟩, hb⟩
  obtain ⟨T, ad, tx, rfl, _, _⟩ := hv
  have HF1 : Hid (F.answers w1.tape) := by show F.answers w1.tape; rw [hb.tape]; exact HF.out
  have HB1 : Hid (Below w.heap.size w w1) := hb
  clear hb
  go_wp2_with fail
  refine (name_bad F s w1 (by exact HF1.out) HS.out H1.out).mono ?_
  rintro e w2 ⟨⟨v, rfl, hv⟩, hb⟩
  obtain ⟨T, ad, tx, rfl, _, _⟩ := hv
  have HF2 : Hid (F.answers w2.tape) := by show F.answers w2.tape; rw [hb.tape]; exact HF1.out
  have HB2 : Hid (Below w.heap.size w w2) := HB1.out.trans (hb.mono HB1.out.size)
  clear hb
  go_wp2_with fail
  refine (name_bad F t w2 (by exact HF2.out) HT.out H2.out).mono ?_
  rintro e w3 ⟨⟨v, rfl, hv⟩, hb⟩
  obtain ⟨T, ad, tx, rfl, _, _⟩ := hv
  have HF3 : Hid (F.answers w3.tape) := by show F.answers w3.tape; rw [hb.tape]; exact HF2.out
  have HB3 : Hid (Below w.heap.size w w3) := HB2.out.trans (hb.mono HB2.out.size)
  clear hb
  go_wp2_with fail
  refine (word_ok (s ++ t) ((s.size : Int) + (t.size : Int)) w3 HST.out H3.out).mono ?_
  rintro e w' ⟨rfl, rfl⟩
  go_wp2
  all_goals (go_ret; exact ⟨rfl, HB3.out⟩)

set_option maxHeartbeats 2000000 in
theorem law7_fft1 (F : Interp) (s t : ByteArray) (w : World) (hF : F.answers w.tape) (hs : s.size ≤ 524288) (ht : t.size ≤ 524288) (h1 : nameB s = false) (h2 : nameB t = false) (h3 : wordB (s ++ t) ((s.size : Int) + (t.size : Int)) = true) (l : 64 < s.size) :
    Calls Tryf.prog 7 #[.string s, .string t] w fun e w' => e = .returned (.bool true) ∧ Below w.heap.size w w' := by
  have HF := hide hF
  clear hF
  have hb : s.size + t.size ≤ 1048576 := by omega
  have HS : Hid (s.size ≤ 1048576) := by show s.size ≤ 1048576; omega
  have HT : Hid (t.size ≤ 1048576) := by show t.size ≤ 1048576; omega
  have HST : Hid ((s ++ t).size ≤ 1048576) := by show (s ++ t).size ≤ 1048576; rw [ByteArray.size_append]; omega
  have HL : Hid ((nameB s && nameB t) = false) := by show (nameB s && nameB t) = false; rw [h1, h2]; rfl
  have H1 := hide h1
  have H2 := hide h2
  have H3 := hide h3
  clear h1 h2 h3
  go_enter Tryf.func7, Tryf.ntmps7
  go_wp2_with (go_at_call 14; refine (bound14_yes _ _ _ hb).mono ?_; rintro e w' ⟨rfl, rfl⟩)
  refine (lock_bad F s t w (by exact HF.out) HS.out HT.out HL.out).mono ?_
  rintro e w1 ⟨⟨v, rfl, hv⟩, hb⟩
  obtain ⟨T, ad, tx, rfl, _, _⟩ := hv
  have HF1 : Hid (F.answers w1.tape) := by show F.answers w1.tape; rw [hb.tape]; exact HF.out
  have HB1 : Hid (Below w.heap.size w w1) := hb
  clear hb
  go_wp2_with fail
  refine (name_bad F s w1 (by exact HF1.out) HS.out H1.out).mono ?_
  rintro e w2 ⟨⟨v, rfl, hv⟩, hb⟩
  obtain ⟨T, ad, tx, rfl, _, _⟩ := hv
  have HF2 : Hid (F.answers w2.tape) := by show F.answers w2.tape; rw [hb.tape]; exact HF1.out
  have HB2 : Hid (Below w.heap.size w w2) := HB1.out.trans (hb.mono HB1.out.size)
  clear hb
  go_wp2_with fail
  refine (name_bad F t w2 (by exact HF2.out) HT.out H2.out).mono ?_
  rintro e w3 ⟨⟨v, rfl, hv⟩, hb⟩
  obtain ⟨T, ad, tx, rfl, _, _⟩ := hv
  have HF3 : Hid (F.answers w3.tape) := by show F.answers w3.tape; rw [hb.tape]; exact HF2.out
  have HB3 : Hid (Below w.heap.size w w3) := HB2.out.trans (hb.mono HB2.out.size)
  clear hb
  go_wp2_with fail
  refine (word_ok (s ++ t) ((s.size : Int) + (t.size : Int)) w3 HST.out H3.out).mono ?_
  rintro e w' ⟨rfl, rfl⟩
  go_wp2
  all_goals (go_ret; exact ⟨rfl, HB3.out⟩)

set_option maxHeartbeats 2000000 in
theorem law7_fft2 (F : Interp) (s t : ByteArray) (w : World) (hF : F.answers w.tape) (hs : s.size ≤ 524288) (ht : t.size ≤ 524288) (h1 : nameB s = false) (h2 : nameB t = false) (h3 : wordB (s ++ t) ((s.size : Int) + (t.size : Int)) = true) (l : t.size < 1) :
    Calls Tryf.prog 7 #[.string s, .string t] w fun e w' => e = .returned (.bool true) ∧ Below w.heap.size w w' := by
  have HF := hide hF
  clear hF
  have hb : s.size + t.size ≤ 1048576 := by omega
  have HS : Hid (s.size ≤ 1048576) := by show s.size ≤ 1048576; omega
  have HT : Hid (t.size ≤ 1048576) := by show t.size ≤ 1048576; omega
  have HST : Hid ((s ++ t).size ≤ 1048576) := by show (s ++ t).size ≤ 1048576; rw [ByteArray.size_append]; omega
  have HL : Hid ((nameB s && nameB t) = false) := by show (nameB s && nameB t) = false; rw [h1, h2]; rfl
  have H1 := hide h1
  have H2 := hide h2
  have H3 := hide h3
  clear h1 h2 h3
  go_enter Tryf.func7, Tryf.ntmps7
  go_wp2_with (go_at_call 14; refine (bound14_yes _ _ _ hb).mono ?_; rintro e w' ⟨rfl, rfl⟩)
  refine (lock_bad F s t w (by exact HF.out) HS.out HT.out HL.out).mono ?_
  rintro e w1 ⟨⟨v, rfl, hv⟩, hb⟩
  obtain ⟨T, ad, tx, rfl, _, _⟩ := hv
  have HF1 : Hid (F.answers w1.tape) := by show F.answers w1.tape; rw [hb.tape]; exact HF.out
  have HB1 : Hid (Below w.heap.size w w1) := hb
  clear hb
  go_wp2_with fail
  refine (name_bad F s w1 (by exact HF1.out) HS.out H1.out).mono ?_
  rintro e w2 ⟨⟨v, rfl, hv⟩, hb⟩
  obtain ⟨T, ad, tx, rfl, _, _⟩ := hv
  have HF2 : Hid (F.answers w2.tape) := by show F.answers w2.tape; rw [hb.tape]; exact HF1.out
  have HB2 : Hid (Below w.heap.size w w2) := HB1.out.trans (hb.mono HB1.out.size)
  clear hb
  go_wp2_with fail
  refine (name_bad F t w2 (by exact HF2.out) HT.out H2.out).mono ?_
  rintro e w3 ⟨⟨v, rfl, hv⟩, hb⟩
  obtain ⟨T, ad, tx, rfl, _, _⟩ := hv
  have HF3 : Hid (F.answers w3.tape) := by show F.answers w3.tape; rw [hb.tape]; exact HF2.out
  have HB3 : Hid (Below w.heap.size w w3) := HB2.out.trans (hb.mono HB2.out.size)
  clear hb
  go_wp2_with fail
  refine (word_ok (s ++ t) ((s.size : Int) + (t.size : Int)) w3 HST.out H3.out).mono ?_
  rintro e w' ⟨rfl, rfl⟩
  go_wp2
  all_goals (go_ret; exact ⟨rfl, HB3.out⟩)

set_option maxHeartbeats 2000000 in
theorem law7_fft3 (F : Interp) (s t : ByteArray) (w : World) (hF : F.answers w.tape) (hs : s.size ≤ 524288) (ht : t.size ≤ 524288) (h1 : nameB s = false) (h2 : nameB t = false) (h3 : wordB (s ++ t) ((s.size : Int) + (t.size : Int)) = true) (l : 64 < t.size) :
    Calls Tryf.prog 7 #[.string s, .string t] w fun e w' => e = .returned (.bool true) ∧ Below w.heap.size w w' := by
  have HF := hide hF
  clear hF
  have hb : s.size + t.size ≤ 1048576 := by omega
  have HS : Hid (s.size ≤ 1048576) := by show s.size ≤ 1048576; omega
  have HT : Hid (t.size ≤ 1048576) := by show t.size ≤ 1048576; omega
  have HST : Hid ((s ++ t).size ≤ 1048576) := by show (s ++ t).size ≤ 1048576; rw [ByteArray.size_append]; omega
  have HL : Hid ((nameB s && nameB t) = false) := by show (nameB s && nameB t) = false; rw [h1, h2]; rfl
  have H1 := hide h1
  have H2 := hide h2
  have H3 := hide h3
  clear h1 h2 h3
  go_enter Tryf.func7, Tryf.ntmps7
  go_wp2_with (go_at_call 14; refine (bound14_yes _ _ _ hb).mono ?_; rintro e w' ⟨rfl, rfl⟩)
  refine (lock_bad F s t w (by exact HF.out) HS.out HT.out HL.out).mono ?_
  rintro e w1 ⟨⟨v, rfl, hv⟩, hb⟩
  obtain ⟨T, ad, tx, rfl, _, _⟩ := hv
  have HF1 : Hid (F.answers w1.tape) := by show F.answers w1.tape; rw [hb.tape]; exact HF.out
  have HB1 : Hid (Below w.heap.size w w1) := hb
  clear hb
  go_wp2_with fail
  refine (name_bad F s w1 (by exact HF1.out) HS.out H1.out).mono ?_
  rintro e w2 ⟨⟨v, rfl, hv⟩, hb⟩
  obtain ⟨T, ad, tx, rfl, _, _⟩ := hv
  have HF2 : Hid (F.answers w2.tape) := by show F.answers w2.tape; rw [hb.tape]; exact HF1.out
  have HB2 : Hid (Below w.heap.size w w2) := HB1.out.trans (hb.mono HB1.out.size)
  clear hb
  go_wp2_with fail
  refine (name_bad F t w2 (by exact HF2.out) HT.out H2.out).mono ?_
  rintro e w3 ⟨⟨v, rfl, hv⟩, hb⟩
  obtain ⟨T, ad, tx, rfl, _, _⟩ := hv
  have HF3 : Hid (F.answers w3.tape) := by show F.answers w3.tape; rw [hb.tape]; exact HF2.out
  have HB3 : Hid (Below w.heap.size w w3) := HB2.out.trans (hb.mono HB2.out.size)
  clear hb
  go_wp2_with fail
  refine (word_ok (s ++ t) ((s.size : Int) + (t.size : Int)) w3 HST.out H3.out).mono ?_
  rintro e w' ⟨rfl, rfl⟩
  go_wp2
  all_goals (go_ret; exact ⟨rfl, HB3.out⟩)

end Go.Proofs.Qxb6621631aFmt
