/- THE SMALL FUNCTIONS: the two bounds, the pass-on, the hex digit, the short escape, the comparison. -/
import Derived.Test.Qxb6619861aAppWalk
namespace Go.Proofs.Qxb6619861a
open Go.ChangeShapes Go.WideShapes Go.ChangeAt Go.RowKit

theorem bound2_yes (a : Option Addr) (n c : Nat) (s : ByteArray) (w : World) (h : n + s.size ≤ 1048576) :
    Calls Try.prog 5 #[.slice a n c, .string s] w fun e w' => e = .returned (.bool true) ∧ w = w' := by
  go_enter Try.func5, Try.ntmps5
  go_wp2
  go_ret
  exact ⟨rfl, rfl⟩

theorem bound2_no (a : Option Addr) (n c : Nat) (s : ByteArray) (w : World) (hn : n ≤ maxLen) (hs : s.size ≤ maxLen) (h : ¬ n + s.size ≤ 1048576) :
    Calls Try.prog 5 #[.slice a n c, .string s] w fun e w' => e = .returned (.bool false) ∧ w = w' := by
  unfold maxLen at hn hs
  by_cases h1 : 1048576 < n
  · go_enter Try.func5, Try.ntmps5
    go_wp2
    go_ret
    exact ⟨rfl, rfl⟩
  · by_cases h2 : 1048576 < s.size
    · go_enter Try.func5, Try.ntmps5
      go_wp2
      go_ret
      exact ⟨rfl, rfl⟩
    · go_enter Try.func5, Try.ntmps5
      go_wp2
      go_ret
      exact ⟨rfl, rfl⟩

theorem bound3_yes (a : Option Addr) (n c : Nat) (s t : ByteArray) (w : World) (h : n + s.size + t.size ≤ 1048576) :
    Calls Try.prog 10 #[.slice a n c, .string s, .string t] w fun e w' => e = .returned (.bool true) ∧ w = w' := by
  go_enter Try.func10, Try.ntmps10
  go_wp2
  go_ret
  exact ⟨rfl, rfl⟩

theorem bound3_no (a : Option Addr) (n c : Nat) (s t : ByteArray) (w : World) (hn : n ≤ maxLen) (hs : s.size ≤ maxLen) (ht : t.size ≤ maxLen) (h : ¬ n + s.size + t.size ≤ 1048576) :
    Calls Try.prog 10 #[.slice a n c, .string s, .string t] w fun e w' => e = .returned (.bool false) ∧ w = w' := by
  unfold maxLen at hn hs ht
  by_cases h1 : 1048576 < n
  · go_enter Try.func10, Try.ntmps10
    go_wp2
    go_ret
    exact ⟨rfl, rfl⟩
  by_cases h2 : 1048576 < s.size
  · go_enter Try.func10, Try.ntmps10
    go_wp2
    go_ret
    exact ⟨rfl, rfl⟩
  by_cases h3 : 1048576 < n + s.size
  · go_enter Try.func10, Try.ntmps10
    go_wp2
    go_ret
    exact ⟨rfl, rfl⟩
  by_cases h4 : 1048576 < t.size
  · go_enter Try.func10, Try.ntmps10
    go_wp2
    go_ret
    exact ⟨rfl, rfl⟩
  · go_enter Try.func10, Try.ntmps10
    go_wp2
    go_ret
    exact ⟨rfl, rfl⟩

/-- The pass-on. -/
theorem zz_any (base : Nat) (v0 : Value) (l : List Int) (s : ByteArray) (w : World) (hs : s.size ≤ 1048576) (hl : l.length ≤ 1048576) (hown : w.ownsRow base 5 1 v0 l.length (l.map (Value.int .u8))) (hbase : base ≤ w.heap.size) :
    Calls Try.prog 7 #[v0, .string s] w fun e w' => ∃ v', e = .returned v' ∧ Inv w base v0 v' (l ++ lit (sb s)) w' := by
  go_enter Try.func7, Try.ntmps7
  go_wp2_with (go_at_call 11; refine (append_any base v0 l s w hs hl hown hbase).mono ?_; rintro e w' ⟨v', rfl, I⟩)
  go_ret
  exact ⟨_, rfl, I⟩

theorem lower_hex (n c : Int) (h0 : 0 ≤ n) (h1 : n < 16) (hc : hexd n = c) (w : World) :
    Calls Try.prog 12 #[.int .u8 c] w fun e w' => e = .returned (.int .i64 n) ∧ w = w' := by
  unfold hexd at hc
  by_cases h : n < 10
  · rw [if_pos h] at hc
    obtain rfl : n = c - 48 := by omega
    have a1 : 48 ≤ c := by omega
    have a2 : c ≤ 57 := by omega
    clear hc h0 h1 h
    go_enter Try.func12, Try.ntmps12
    go_wp2
    go_ret
    exact ⟨rfl, rfl⟩
  · rw [if_neg h] at hc
    obtain rfl : n = c - 97 + 10 := by omega
    have a1 : 97 ≤ c := by omega
    have a2 : c ≤ 102 := by omega
    clear hc h0 h1 h
    go_enter Try.func12, Try.ntmps12
    go_wp2
    go_ret
    exact ⟨rfl, rfl⟩

/-- The short escapes, each at its letter. -/
theorem short_esc (e d : Int) (h : e = 34 ∧ d = 34 ∨ e = 92 ∧ d = 92 ∨ e = 98 ∧ d = 8 ∨ e = 102 ∧ d = 12 ∨ e = 110 ∧ d = 10 ∨ e = 114 ∧ d = 13 ∨ e = 116 ∧ d = 9) (w : World) :
    Calls Try.prog 13 #[.int .u8 e] w fun r w' => r = .returned (.int .i64 d) ∧ w = w' := by
  rcases h with ⟨rfl, rfl⟩ | ⟨rfl, rfl⟩ | ⟨rfl, rfl⟩ | ⟨rfl, rfl⟩ | ⟨rfl, rfl⟩ | ⟨rfl, rfl⟩ | ⟨rfl, rfl⟩
  all_goals
    go_enter Try.func13, Try.ntmps13
    go_wp2
    go_ret
    exact ⟨rfl, rfl⟩

set_option maxHeartbeats 400000 in
/-- The comparison of a row with a string that reads the same. -/
theorem same_any (b off cap : Nat) (s : ByteArray) (w : World) (hs : s.size ≤ 1048576) (hc : ∀ i, i < s.size → w.cell? ⟨b, off + i, none⟩ = some (.int .u8 ((sb s).getD i 0))) :
    Calls Try.prog 9 #[.slice (some ⟨b, off, none⟩) s.size cap, .string s] w fun e w' => e = .returned (.bool true) ∧ ∃ n, w' = w.drewN n := by
  go_enter Try.func9, Try.ntmps9
  go_wp2
  go_loopw [5] (fun i wr => ∃ k : Nat, k ≤ s.size ∧ i = .int .i64 k ∧ ∃ n, wr = w.drewN n) (fun i _ => s.size - (intOf i).toNat)
  case atStart => exact ⟨0, Nat.zero_le _, rfl, 0, rfl⟩
  case round =>
    obtain ⟨k, hk, rfl, n, rfl⟩ := hrel
    by_cases hlt : k < s.size
    · have hcx : w.cell? ⟨b, off + k, none⟩ = some (.int .u8 ((s[k].toNat : Nat) : Int)) := by
        rw [hc k hlt]
        simp [List.getD, sb_get s k hlt]
      clear hc
      go_wp2
      go_quiet (fail)
      go_wp2
      go_roundw
      case rel => exact ⟨k + 1, by omega, by go_num, _, rfl⟩
      case measure => simp [intOf]; omega
    · obtain rfl : k = s.size := by omega
      go_wp2
      go_ret
      exact ⟨rfl, n, rfl⟩
end Go.Proofs.Qxb6619861a
