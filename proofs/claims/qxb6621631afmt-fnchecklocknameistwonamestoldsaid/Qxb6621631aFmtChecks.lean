/- CheckWord, CheckName, CheckLockName BY THEIR CONTRACTS. -/
import Derived.Test.Qxb6621631aFmtErrs
namespace Go.Proofs.Qxb6621631aFmt
open Go.RowKit Go.Extern.Stop Go.Stop Go.Extern

/-- The plain rule. -/
def okByte (c : UInt8) : Bool := decide (33 ≤ c.toNat ∧ c.toNat ≤ 126)
def okAll (s : ByteArray) : Bool := s.data.toList.all okByte
def wordB (s : ByteArray) (max : Int) : Bool := decide (1 ≤ s.size) && decide ((s.size : Int) ≤ max) && okAll s
def nameB (s : ByteArray) : Bool := wordB s 64

theorem ok_at {s : ByteArray} (h : okAll s = true) (k : Nat) (hk : k < s.size) : 33 ≤ (s[k].toNat : Int) ∧ (s[k].toNat : Int) ≤ 126 := by
  unfold okAll at h
  have h2 : s[k] ∈ s.data.toList := by
    have : s[k] = s.data[k] := rfl
    rw [this]; simp
  have := List.all_eq_true.1 h _ h2
  simp only [okByte, decide_eq_true_eq] at this
  omega
theorem all_of {s : ByteArray} (h : ∀ k (hk : k < s.size), 33 ≤ (s[k].toNat : Int) ∧ (s[k].toNat : Int) ≤ 126) : okAll s = true := by
  unfold okAll
  rw [List.all_eq_true]
  intro c hc
  obtain ⟨k, hk, rfl⟩ := List.getElem_of_mem hc
  have hk' : k < s.size := by simpa using hk
  have := h k hk'
  simp only [okByte, decide_eq_true_eq]
  have e : s[k] = s.data.toList[k] := by simp; rfl
  rw [← e]; omega

theorem isEmpty_false {s : ByteArray} (h : 1 ≤ s.size) : s.toList.isEmpty = false := by
  rw [ByteArray.toList_eq]
  cases hl : s.data.toList with
  | nil =>
    have : s.data.toList.length = s.size := by simp
    rw [hl] at this
    simp at this
    omega
  | cons => rfl
theorem isEmpty_true {s : ByteArray} (h : s.size = 0) : s.toList.isEmpty = true := by
  rw [ByteArray.toList_eq]
  have : s.data.toList.length = 0 := by simpa using h
  rw [List.eq_nil_of_length_eq_zero this]; rfl

/-- Behind the block of the operands. -/
theorem Errs.behind {w w' : World} {e : Ending} {o : Obj} (h : Errs (w.alloc o) w' e) : Errs w w' e :=
  ⟨h.1, ((Below.refl _ _).alloc (Nat.le_refl _) o).trans (h.2.mono (by simp))⟩

set_option maxHeartbeats 400000 in
theorem word_ok (s : ByteArray) (max : Int) (w : World) (hs : s.size ≤ 1048576) (h : wordB s max = true) :
    Calls Tryf.prog 9 #[.string s, .int .i64 max] w fun e w' => e = .returned .nilIface ∧ w = w' := by
  simp only [wordB, Bool.and_eq_true, decide_eq_true_eq] at h
  obtain ⟨⟨h1, h2⟩, h3⟩ := h
  have HA := hide h3
  clear h3
  have he := isEmpty_false h1
  go_enter Tryf.func9, Tryf.ntmps9
  go_wp2_with fail
  go_loop [5] (fun i => ∃ k : Nat, k ≤ s.size ∧ i = .int .i64 k) (fun i => s.size - (intOf i).toNat)
  case atStart => exact ⟨0, Nat.zero_le _, rfl⟩
  case round =>
    obtain ⟨k, hk, rfl⟩ := hrel
    by_cases hlt : k < s.size
    · have hc := ok_at HA.out k hlt
      obtain ⟨c, hcc⟩ : ∃ c : Int, ((s[k].toNat : Nat) : Int) = c := ⟨_, rfl⟩
      have c1 : 33 ≤ c := by omega
      have c2 : c ≤ 126 := by omega
      clear hc
      go_wp2_with fail
      go_round
      case rel => exact ⟨k + 1, by omega, by go_num⟩
      case measure => simp [intOf]; omega
    · go_wp2_with fail
      go_ret
      exact ⟨rfl, rfl⟩

set_option maxHeartbeats 1000000 in
theorem word_bad (F : Interp) (s : ByteArray) (max : Int) (w : World) (hF : F.answers w.tape) (hs : s.size ≤ 1048576) (h : wordB s max = false) :
    Calls Tryf.prog 9 #[.string s, .int .i64 max] w fun e w' => Errs w w' e := by
  have HF := hide hF
  clear hF
  by_cases h0 : s.size = 0
  · have he := isEmpty_true h0
    go_enter Tryf.func9, Tryf.ntmps9
    go_wp2_with fail
    refine (errors_new _ w).mono ?_
    rintro e w' ⟨⟨v, rfl, hv⟩, hb⟩
    have HV := hide hv
    have HB := hide hb
    clear hv hb
    go_wp2
    go_ret
    exact ⟨⟨_, rfl, HV.out⟩, HB.out⟩
  · have h1 : 1 ≤ s.size := by omega
    have he := isEmpty_false h1
    by_cases h2 : max < (s.size : Int)
    · go_enter Tryf.func9, Tryf.ntmps9
      go_wp2_with fail
      refine (errorf_long F w.heap.size (s.size : Int) max _ (by exact HF.out) (by simp) (by simp)).mono ?_
      rintro e w' he'
      obtain ⟨⟨v, rfl, hv⟩, hb⟩ := Errs.behind he'
      have HV := hide hv
      have HB := hide hb
      clear hv hb he'
      go_wp2
      go_ret
      exact ⟨⟨_, rfl, HV.out⟩, HB.out⟩
    · have h2' : (s.size : Int) ≤ max := by omega
      have HN : Hid (okAll s = false) := by
        show okAll s = false
        simp only [wordB, Bool.and_eq_false_iff, decide_eq_false_iff_not] at h
        rcases h with (h | h) | h
        · omega
        · omega
        · exact h
      clear h
      go_enter Tryf.func9, Tryf.ntmps9
      go_wp2_with fail
      go_loop [5] (fun i => ∃ k : Nat, k ≤ s.size ∧ i = .int .i64 k ∧ ∀ j (hj : j < s.size), j < k → 33 ≤ (s[j].toNat : Int) ∧ (s[j].toNat : Int) ≤ 126) (fun i => s.size - (intOf i).toNat)
      case atStart => exact ⟨0, Nat.zero_le _, rfl, fun j _ hj => absurd hj (Nat.not_lt_zero _)⟩
      case round =>
        obtain ⟨k, hk, rfl, hall⟩ := hrel
        have HALL := hide hall
        clear hall
        by_cases hlt : k < s.size
        · obtain ⟨c, hcc⟩ : ∃ c : Int, ((s[k].toNat : Nat) : Int) = c := ⟨_, rfl⟩
          by_cases hok : 33 ≤ c ∧ c ≤ 126
          · obtain ⟨c1, c2⟩ := hok
            have HNX : Hid (∀ j (hj : j < s.size), j < k + 1 → 33 ≤ (s[j].toNat : Int) ∧ (s[j].toNat : Int) ≤ 126) := fun j hj hjk => by
              by_cases hjk' : j < k
              · exact HALL.out j hj hjk'
              · obtain rfl : j = k := by omega
                omega
            go_wp2_with fail
            go_round
            case rel => exact ⟨k + 1, by omega, by go_num, HNX.out⟩
            case measure => simp [intOf]; omega
          · rcases (show c < 33 ∨ (33 ≤ c ∧ 126 < c) by omega) with c1 | ⟨c1, c2⟩
            all_goals
              clear hok
              go_wp2_with fail
              refine (errorf_byte F w.heap.size c (k : Int) _ (by exact HF.out) (by simp) (by simp)).mono ?_
              rintro e w' he'
              obtain ⟨⟨v, rfl, hv⟩, hb⟩ := Errs.behind he'
              have HV := hide hv
              have HB := hide hb
              clear hv hb he'
              go_wp2
              go_ret
              exact ⟨⟨_, rfl, HV.out⟩, HB.out⟩
        · exfalso
          have : okAll s = true := all_of fun j hj => HALL.out j hj (by omega)
          rw [HN.out] at this
          cases this

/-! ### CheckName, CheckLockName -/
theorem name_ok (s : ByteArray) (w : World) (hs : s.size ≤ 1048576) (h : nameB s = true) : Calls Tryf.prog 12 #[.string s] w fun e w' => e = .returned .nilIface ∧ w = w' := by
  have H := hide h
  clear h
  go_enter Tryf.func12, Tryf.ntmps12
  go_wp2_with fail
  refine (word_ok s 64 w hs H.out).mono ?_
  rintro e w' ⟨rfl, rfl⟩
  go_wp2
  go_ret
  exact ⟨rfl, rfl⟩

theorem iserr_below {w w' : World} {v : Value} (h : IsErr w v) (hb : Below w.heap.size w w') : IsErr w' v := by
  obtain ⟨T, a, s, rfl, hT, hs⟩ := h
  exact ⟨T, a, s, rfl, hT, (hb.cell (World.block_lt_of_cell? w a hs)).trans hs⟩

set_option maxHeartbeats 1000000 in
theorem name_bad (F : Interp) (s : ByteArray) (w : World) (hF : F.answers w.tape) (hs : s.size ≤ 1048576) (h : nameB s = false) : Calls Tryf.prog 12 #[.string s] w fun e w' => Errs w w' e := by
  have H := hide h
  have HF := hide hF
  clear h hF
  go_enter Tryf.func12, Tryf.ntmps12
  go_wp2_with fail
  refine (word_bad F s 64 w HF.out hs H.out).mono ?_
  rintro e w1 ⟨⟨v, rfl, hv⟩, hb⟩
  have HT : Hid (F.answers w1.tape) := by show F.answers w1.tape; rw [hb.tape]; exact HF.out
  have HB := hide hb
  obtain ⟨T, a, t, rfl, hT, hc⟩ := hv
  have HV : Hid (IsErr w1 (.iface T (.pointer (some a)))) := ⟨T, a, t, rfl, hT, hc⟩
  clear hb hT hc
  go_wp2_with fail
  refine (errorf_name F w1.heap.size (.iface T (.pointer (some a))) _ (by exact HT.out) (by simp) (iserr_below HV.out ((Below.refl _ _).alloc (Nat.le_refl _) _))).mono ?_
  rintro e w' he'
  obtain ⟨⟨v, rfl, hv⟩, hb⟩ := Errs.behind he'
  have HV2 := hide hv
  have HB2 := hide hb
  clear hv hb he'
  go_wp2
  go_ret
  exact ⟨⟨_, rfl, HV2.out⟩, HB.out.trans (HB2.out.mono HB.out.size)⟩
end Go.Proofs.Qxb6621631aFmt
