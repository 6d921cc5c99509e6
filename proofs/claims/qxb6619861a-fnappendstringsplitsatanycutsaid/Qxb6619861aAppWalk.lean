import Derived.Test.Qxb6619861aAppend
namespace Go.Proofs.Qxb6619861a
open Go.ChangeShapes Go.WideShapes Go.ChangeAt Go.RowKit

theorem ones (zs : List Int) (vs : List Value) (h : vs = zs.map (Value.int .u8)) : ∀ u ∈ vs, u.oneCell' = true := h ▸ ints_oneCell .u8 zs

/-- A digit of the table. -/
theorem idx_hex (n : Int) (h0 : 0 ≤ n) (h1 : n < 16) (w : World) : (Instr.index 9 (.string { data := #[48, 49, 50, 51, 52, 53, 54, 55, 56, 57, 97, 98, 99, 100, 101, 102] }) (.int .u8 n)).run Try.prog w = .ok (.int .u8 (hexd n)) w := by
  rcases (show n = 0 ∨ n = 1 ∨ n = 2 ∨ n = 3 ∨ n = 4 ∨ n = 5 ∨ n = 6 ∨ n = 7 ∨ n = 8 ∨ n = 9 ∨ n = 10 ∨ n = 11 ∨ n = 12 ∨ n = 13 ∨ n = 14 ∨ n = 15 by omega) with rfl | rfl | rfl | rfl | rfl | rfl | rfl | rfl | rfl | rfl | rfl | rfl | rfl | rfl | rfl | rfl <;> kernel_rfl

theorem and15 (c : Int) (h0 : 0 ≤ c) (h1 : c < 32) : bits BinOp.and IntKind.u8 c 15 = c % 16 := by
  obtain ⟨n, rfl⟩ := Int.eq_ofNat_of_zero_le h0
  have hn : n < 32 := by omega
  have key : ∀ m : Fin 32, bits BinOp.and IntKind.u8 ((m.val : Nat) : Int) 15 = ((m.val : Nat) : Int) % 16 := by decide
  exact key ⟨n, hn⟩

set_option maxHeartbeats 1000000 in
theorem append_any (base : Nat) (v0 : Value) (l : List Int) (s : ByteArray) (w : World) (hs : s.size ≤ 1048576) (hl : l.length ≤ 1048576) (hown : w.ownsRow base 5 1 v0 l.length (l.map (Value.int .u8))) (hbase : base ≤ w.heap.size) :
    Calls Try.prog 11 #[v0, .string s] w fun e w' => ∃ v', e = .returned v' ∧ Inv w base v0 v' (l ++ lit (sb s)) w' := by
  have I0 : Inv w base v0 v0 l w := Inv.start hown hbase
  clear hown
  obtain ⟨i0, hi, hz0, hz1, hz2⟩ := info_parts Try.info5
  go_enter Try.func11, Try.ntmps11
  go_wp2_with (first
    | (at_builtin; refine wpList_append_own_at _ rfl (.tmp 7) (.tmp 8) 22 rfl base 5 i0 (.int .u8 0) 1 1 Try.underlying22 hi hz0 hz1 hz2 rfl (by decide) _ _ _ rfl (I0.alloc _).own ⟨w.heap.size, 0, none⟩ 1 1 [.int .u8 34] rfl rfl (cell_one_new _ _ _) (ones [34] _ rfl) (by unfold maxLen; omega) (by omega) (I0.alloc _).le ?_)
    | go_in)
  intro v1 w1 ho1 hg1 _ hat1
  have I1 : Inv w base v0 v1 (l ++ [34]) w1 := (I0.alloc _).app (news := [34]) rfl rfl ho1 hg1 hat1 (by simp)
  clear ho1 hg1 hat1 I0
  go_wp2
  go_loopw [0, 5] (fun v i wr => ∃ k : Nat, k ≤ s.size ∧ i = .int .i64 k ∧ Inv w base v0 v ((l ++ [34]) ++ body ((sb s).take k)) wr) (fun _ i _ => s.size - (intOf i).toNat)
  case atStart => exact ⟨0, Nat.zero_le _, rfl, by simpa [body] using I1⟩
  case round =>
    obtain ⟨k, hk, rfl, I⟩ := hrel
    clear I1
    by_cases hlt : k < s.size
    · obtain ⟨c, hc⟩ : ∃ c : Int, ((s[k].toNat : Nat) : Int) = c := ⟨_, rfl⟩
      have hcb : 0 ≤ c ∧ c ≤ 255 := by have := s[k].toNat_lt; omega
      have hgk : (sb s)[k]? = some c := hc ▸ sb_get s k hlt
      have hbs := body_take_succ (sb s) k c hgk
      have hlen : (((l ++ [34]) ++ body ((sb s).take k))).length ≤ 8388608 := by
        have h1 := (body_len ((sb s).take k)).2
        have h2 : ((sb s).take k).length ≤ k := List.length_take_le _ _
        simp only [List.length_append, List.length_cons, List.length_nil]; omega
      obtain ⟨L, hL⟩ : ∃ L, (l ++ [34]) ++ body ((sb s).take k) = L := ⟨_, rfl⟩
      have NX : Hid (((l ++ [34]) ++ body ((sb s).take (k + 1))) = L ++ esc c) := by show _ = _; rw [hbs, ← hL]; simp
      rw [hL] at I hlen
      clear hbs hL hgk
      by_cases h34 : c = 34
      · subst h34
        go_wp2_with (first
          | (at_builtin; refine wpList_append_own_at _ rfl (.tmp 30) (.tmp 32) 22 rfl base 5 i0 (.int .u8 0) 1 1 Try.underlying22 hi hz0 hz1 hz2 rfl (by decide) _ _ _ rfl (I.alloc _).own ⟨wr.heap.size, 0, none⟩ 2 2 [.int .u8 92, .int .u8 34] rfl rfl (cells_new _ _ _) (ones [92, 34] _ rfl) (by unfold maxLen; omega) (by omega) (I.alloc _).le ?_)
          | go_in)
        intro v2 w2 ho2 hg2 _ hat2
        have I2 := (I.alloc _).app (news := [92, 34]) rfl rfl ho2 hg2 hat2 (by simp)
        clear ho2 hg2 hat2 I
        go_wp2
        go_roundw
        case rel => exact ⟨k + 1, by omega, by go_num, by rw [NX.out]; exact I2⟩
        case measure => simp [intOf]; omega
      by_cases h92 : c = 92
      · subst h92
        go_wp2_with (first
          | (at_builtin; refine wpList_append_own_at _ rfl (.tmp 30) (.tmp 32) 22 rfl base 5 i0 (.int .u8 0) 1 1 Try.underlying22 hi hz0 hz1 hz2 rfl (by decide) _ _ _ rfl (I.alloc _).own ⟨wr.heap.size, 0, none⟩ 2 2 [.int .u8 92, .int .u8 92] rfl rfl (cells_new _ _ _) (ones [92, 92] _ rfl) (by unfold maxLen; omega) (by omega) (I.alloc _).le ?_)
          | go_in)
        intro v2 w2 ho2 hg2 _ hat2
        have I2 := (I.alloc _).app (news := [92, 92]) rfl rfl ho2 hg2 hat2 (by simp)
        clear ho2 hg2 hat2 I
        go_wp2
        go_roundw
        case rel => exact ⟨k + 1, by omega, by go_num, by rw [NX.out]; exact I2⟩
        case measure => simp [intOf]; omega
      by_cases h10 : c = 10
      · subst h10
        go_wp2_with (first
          | (at_builtin; refine wpList_append_own_at _ rfl (.tmp 37) (.tmp 38) 22 rfl base 5 i0 (.int .u8 0) 1 1 Try.underlying22 hi hz0 hz1 hz2 rfl (by decide) _ _ _ rfl (I.alloc _).own ⟨wr.heap.size, 0, none⟩ 2 2 [.int .u8 92, .int .u8 110] rfl rfl (cells_new _ _ _) (ones [92, 110] _ rfl) (by unfold maxLen; omega) (by omega) (I.alloc _).le ?_)
          | go_in)
        intro v2 w2 ho2 hg2 _ hat2
        have I2 := (I.alloc _).app (news := [92, 110]) rfl rfl ho2 hg2 hat2 (by simp)
        clear ho2 hg2 hat2 I
        go_wp2
        go_roundw
        case rel => exact ⟨k + 1, by omega, by go_num, by rw [NX.out]; exact I2⟩
        case measure => simp [intOf]; omega
      by_cases h13 : c = 13
      · subst h13
        go_wp2_with (first
          | (at_builtin; refine wpList_append_own_at _ rfl (.tmp 43) (.tmp 44) 22 rfl base 5 i0 (.int .u8 0) 1 1 Try.underlying22 hi hz0 hz1 hz2 rfl (by decide) _ _ _ rfl (I.alloc _).own ⟨wr.heap.size, 0, none⟩ 2 2 [.int .u8 92, .int .u8 114] rfl rfl (cells_new _ _ _) (ones [92, 114] _ rfl) (by unfold maxLen; omega) (by omega) (I.alloc _).le ?_)
          | go_in)
        intro v2 w2 ho2 hg2 _ hat2
        have I2 := (I.alloc _).app (news := [92, 114]) rfl rfl ho2 hg2 hat2 (by simp)
        clear ho2 hg2 hat2 I
        go_wp2
        go_roundw
        case rel => exact ⟨k + 1, by omega, by go_num, by rw [NX.out]; exact I2⟩
        case measure => simp [intOf]; omega
      by_cases h9 : c = 9
      · subst h9
        go_wp2_with (first
          | (at_builtin; refine wpList_append_own_at _ rfl (.tmp 49) (.tmp 50) 22 rfl base 5 i0 (.int .u8 0) 1 1 Try.underlying22 hi hz0 hz1 hz2 rfl (by decide) _ _ _ rfl (I.alloc _).own ⟨wr.heap.size, 0, none⟩ 2 2 [.int .u8 92, .int .u8 116] rfl rfl (cells_new _ _ _) (ones [92, 116] _ rfl) (by unfold maxLen; omega) (by omega) (I.alloc _).le ?_)
          | go_in)
        intro v2 w2 ho2 hg2 _ hat2
        have I2 := (I.alloc _).app (news := [92, 116]) rfl rfl ho2 hg2 hat2 (by simp)
        clear ho2 hg2 hat2 I
        go_wp2
        go_roundw
        case rel => exact ⟨k + 1, by omega, by go_num, by rw [NX.out]; exact I2⟩
        case measure => simp [intOf]; omega
      by_cases h8 : c = 8
      · subst h8
        go_wp2_with (first
          | (at_builtin; refine wpList_append_own_at _ rfl (.tmp 55) (.tmp 56) 22 rfl base 5 i0 (.int .u8 0) 1 1 Try.underlying22 hi hz0 hz1 hz2 rfl (by decide) _ _ _ rfl (I.alloc _).own ⟨wr.heap.size, 0, none⟩ 2 2 [.int .u8 92, .int .u8 98] rfl rfl (cells_new _ _ _) (ones [92, 98] _ rfl) (by unfold maxLen; omega) (by omega) (I.alloc _).le ?_)
          | go_in)
        intro v2 w2 ho2 hg2 _ hat2
        have I2 := (I.alloc _).app (news := [92, 98]) rfl rfl ho2 hg2 hat2 (by simp)
        clear ho2 hg2 hat2 I
        go_wp2
        go_roundw
        case rel => exact ⟨k + 1, by omega, by go_num, by rw [NX.out]; exact I2⟩
        case measure => simp [intOf]; omega
      by_cases h12 : c = 12
      · subst h12
        go_wp2_with (first
          | (at_builtin; refine wpList_append_own_at _ rfl (.tmp 61) (.tmp 62) 22 rfl base 5 i0 (.int .u8 0) 1 1 Try.underlying22 hi hz0 hz1 hz2 rfl (by decide) _ _ _ rfl (I.alloc _).own ⟨wr.heap.size, 0, none⟩ 2 2 [.int .u8 92, .int .u8 102] rfl rfl (cells_new _ _ _) (ones [92, 102] _ rfl) (by unfold maxLen; omega) (by omega) (I.alloc _).le ?_)
          | go_in)
        intro v2 w2 ho2 hg2 _ hat2
        have I2 := (I.alloc _).app (news := [92, 102]) rfl rfl ho2 hg2 hat2 (by simp)
        clear ho2 hg2 hat2 I
        go_wp2
        go_roundw
        case rel => exact ⟨k + 1, by omega, by go_num, by rw [NX.out]; exact I2⟩
        case measure => simp [intOf]; omega
      have e34 : (c == 34) = false := by simpa using h34
      have e92 : (c == 92) = false := by simpa using h92
      by_cases h32 : c < 32
      · have he := esc_u h32 h10 h13 h9 h8 h12
        have NX2 : Hid (((l ++ [34]) ++ body ((sb s).take (k + 1))) = L ++ [92, 117, 48, 48, hexd (c / 16), hexd (c % 16)]) := by show _ = _; rw [NX.out, he]
        clear he NX
        have x1 := idx_hex (c / 16) (by omega) (by omega)
        have x2 := idx_hex (c % 16) (by omega) (by omega)
        have x3 := and15 c (by omega) (by omega)
        go_wp2_with fail
        have IW : Hid (Inv w base v0 u0 L (wr.alloc (.cells #[.int .u8 92, .int .u8 117, .int .u8 48, .int .u8 48, .int .u8 (hexd (c / 16)), .int .u8 (hexd (c % 16))] 5)).drew) := (I.alloc _).drew
        have cW : Hid (∀ j u, ([.int .u8 92, .int .u8 117, .int .u8 48, .int .u8 48, .int .u8 (hexd (c / 16)), .int .u8 (hexd (c % 16))] : List Value)[j]? = some u → (wr.alloc (.cells #[.int .u8 92, .int .u8 117, .int .u8 48, .int .u8 48, .int .u8 (hexd (c / 16)), .int .u8 (hexd (c % 16))] 5)).drew.cell? ((⟨wr.heap.size, 0, none⟩ : Addr).add j) = some u) := cells_new wr [.int .u8 92, .int .u8 117, .int .u8 48, .int .u8 48, .int .u8 (hexd (c / 16)), .int .u8 (hexd (c % 16))] 5
        clear I
        go_region_law (refine step_append_own_at rfl (.tmp 67) (.tmp 74) 22 rfl base 5 i0 (.int .u8 0) 1 1 Try.underlying22 hi hz0 hz1 hz2 rfl (by decide) u0 L.length (L.map (Value.int .u8)) (by simp [Act.eval]) IW.out.own ⟨wr.heap.size, 0, none⟩ 6 6 [.int .u8 92, .int .u8 117, .int .u8 48, .int .u8 48, .int .u8 (hexd (c / 16)), .int .u8 (hexd (c % 16))] (by simp [Act.eval]) rfl cW.out (ones [92, 117, 48, 48, hexd (c / 16), hexd (c % 16)] _ rfl) (by unfold maxLen; omega) (by omega) IW.out.le ?_; intro v2 w2 ho2 hg2 hat2; have I2 : Hid (Inv w base v0 v2 (L ++ [92, 117, 48, 48, hexd (c / 16), hexd (c % 16)]) w2) := IW.out.app (news := [92, 117, 48, 48, hexd (c / 16), hexd (c % 16)]) rfl rfl ho2 hg2 hat2 (by simp); clear ho2 hg2 hat2)
        all_goals
          clear IW cW
          go_wp2
          go_roundw
          case rel => exact ⟨k + 1, by omega, by go_num, by rw [NX2.out]; exact (‹Hid (Inv w base v0 _ _ _)›).out⟩
          case measure => simp [intOf]; omega
      · have h32' : 32 ≤ c := by omega
        have he := esc_raw h32' h34 h92
        have NX2 : Hid (((l ++ [34]) ++ body ((sb s).take (k + 1))) = L ++ [c]) := by show _ = _; rw [NX.out, he]
        clear he NX
        go_wp2_with (first
          | (at_builtin; refine wpList_append_own_at _ rfl (.tmp 19) (.tmp 21) 22 rfl base 5 i0 (.int .u8 0) 1 1 Try.underlying22 hi hz0 hz1 hz2 rfl (by decide) _ _ _ rfl (I.alloc _).own ⟨wr.heap.size, 0, none⟩ 1 1 [.int .u8 c] rfl rfl (cells_new _ _ _) (ones [c] _ rfl) (by unfold maxLen; omega) (by omega) (I.alloc _).le ?_)
          | go_in)
        intro v2 w2 ho2 hg2 _ hat2
        have I2 := (I.alloc _).app (news := [c]) rfl rfl ho2 hg2 hat2 (by simp)
        clear ho2 hg2 hat2 I
        go_wp2
        go_roundw
        case rel => exact ⟨k + 1, by omega, by go_num, by rw [NX2.out]; exact I2⟩
        case measure => simp [intOf]; omega
    · obtain rfl : k = s.size := by omega
      have hle : (((l ++ [34]) ++ body ((sb s).take s.size))).length ≤ 8388608 := by
        have h1 := (body_len ((sb s).take s.size)).2
        have h2 : ((sb s).take s.size).length ≤ s.size := List.length_take_le _ _
        simp only [List.length_append, List.length_cons, List.length_nil]; omega
      have hfull : Hid (((l ++ [34]) ++ body ((sb s).take s.size)) ++ [34] = l ++ lit (sb s)) := by
        show _ = _
        rw [List.take_of_length_le (by rw [sb_length]; exact Nat.le_refl _)]
        simp [lit]
      obtain ⟨L, hL⟩ : ∃ L, (l ++ [34]) ++ body ((sb s).take s.size) = L := ⟨_, rfl⟩
      rw [hL] at I hle hfull
      clear hL
      go_wp2_with (first
        | (at_builtin; refine wpList_append_own_at _ rfl (.tmp 76) (.tmp 77) 22 rfl base 5 i0 (.int .u8 0) 1 1 Try.underlying22 hi hz0 hz1 hz2 rfl (by decide) _ _ _ rfl (I.alloc _).own ⟨wr.heap.size, 0, none⟩ 1 1 [.int .u8 34] rfl rfl (cells_new _ _ _) (ones [34] _ rfl) (by unfold maxLen; omega) (by omega) (I.alloc _).le ?_)
        | go_in)
      intro v2 w2 ho2 hg2 _ hat2
      have I2 := (I.alloc _).app (news := [34]) rfl rfl ho2 hg2 hat2 (by simp)
      clear ho2 hg2 hat2 I
      go_wp2
      go_ret
      exact ⟨v2, rfl, hfull.out ▸ I2⟩
end Go.Proofs.Qxb6619861a
