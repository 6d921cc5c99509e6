/- THE DECODER, at a canonical literal. -/
import Derived.Test.Qxb6619861aSmall
namespace Go.Proofs.Qxb6619861a
open Go.ChangeShapes Go.WideShapes Go.ChangeAt Go.RowKit

theorem hide {p : Prop} (h : p) : Hid p := h

/-- What stands at the k-th byte's place in its literal. -/
theorem lit_at (S : List Int) (k : Nat) (c : Int) (h : S[k]? = some c) (j : Nat) (hj : j < (esc c).length) : (lit S).getD (1 + (body (S.take k)).length + j) 0 = (esc c).getD j 0 := by
  obtain ⟨hk, rfl⟩ := List.getElem?_eq_some_iff.1 h
  have hS : S = S.take k ++ S[k] :: S.drop (k + 1) := by rw [List.getElem_cons_drop, List.take_append_drop]
  have hb : body S = body (S.take k) ++ (esc S[k] ++ body (S.drop (k + 1))) := by
    conv => lhs; rw [hS]
    rw [body_append, body_cons]
  simp only [lit, List.getD_eq_getElem?_getD]
  rw [hb, show 1 + (body (S.take k)).length + j = ((body (S.take k)).length + j) + 1 by omega, List.getElem?_cons_succ, List.append_assoc, List.getElem?_append_right (by omega), Nat.add_sub_cancel_left,
    List.append_assoc, List.getElem?_append_left hj]

/-- There is room for it ahead of the closing quote. -/
theorem lit_room (S : List Int) (k : Nat) (c : Int) (h : S[k]? = some c) : 1 + (body (S.take k)).length + (esc c).length + 1 ≤ (lit S).length := by
  have h1 := body_take_succ S k c h
  have h2 : (body (S.take (k + 1))).length ≤ (body S).length := by
    conv => rhs; rw [← List.take_append_drop (k + 1) S, body_append]
    simp
  rw [lit_len]
  rw [h1, List.length_append] at h2
  omega
theorem lit_first (S : List Int) : (lit S).getD 0 0 = 34 := rfl
theorem lit_last (S : List Int) : (lit S).getD ((lit S).length - 1) 0 = 34 := by
  rw [lit_len]
  simp only [lit, List.getD_eq_getElem?_getD]
  rw [show (body S).length + 2 - 1 = (body S).length + 1 by omega, List.getElem?_cons_succ, List.getElem?_append_right (by omega)]
  simp

set_option maxRecDepth 10000 in
set_option maxHeartbeats 1000000 in
theorem decode_any (b off n cap : Nat) (S : List Int) (w : World) (hn : (lit S).length = n) (hS : ∀ c ∈ S, 0 ≤ c ∧ c ≤ 255) (hb : n ≤ 8388608) (hbw : b < w.heap.size)
    (hc : ∀ i, i < n → w.cell? ⟨b, off + i, none⟩ = some (.int .u8 ((lit S).getD i 0))) :
    Calls Try.prog 8 #[.slice (some ⟨b, off, none⟩) n cap] w fun e w' => ∃ cp, e = .returned (.tuple #[.slice (some ⟨w.heap.size, 0, none⟩) S.length cp, .bool true]) ∧
      w'.ownsRow w.heap.size 5 1 (.slice (some ⟨w.heap.size, 0, none⟩) S.length cp) S.length (S.map (Value.int .u8)) ∧ Below w.heap.size w w' := by
  have hn2 : 2 ≤ n := by rw [← hn, lit_len]; omega
  have c0 : w.cell? ⟨b, off, none⟩ = some (.int .u8 34) := by simpa using (hc 0 (by omega)).trans (by rw [lit_first])
  have c1 : w.cell? ⟨b, off + (n - 1), none⟩ = some (.int .u8 34) := (hc (n - 1) (by omega)).trans (by rw [← hn, lit_last])
  have HN : Hid ((lit S).length = n) := hn
  have d0 : decide ((n : Int) < 2) = false := decide_eq_false (by omega)
  clear hn
  obtain ⟨i0, hi, hz0, hz1, hz2⟩ := info_parts Try.info5
  go_enter Try.func8, Try.ntmps8
  go_wp2_with (first
    | (at_make; refine wpList_make_own _ rfl _ _ 22 rfl w.heap.size 5 i0 (.int .u8 0) 1 Try.underlying22 hi hz0 hz1 _ _ _ n rfl rfl rfl ?b1 ?b2 (Nat.le_refl _) ?_)
    | go_in)
  case b1 => rw [hz2]; omega
  case b2 => unfold maxLen; omega
  intro w1 hown hgrow
  have hb1 : Below w.heap.size w w1 := (Below.refl _ _).grown hgrow (Nat.le_refl _) (fun k h => by cases h)
  clear hgrow c0 c1
  go_wp2
  go_loopw [5, 6] (fun v i wr => ∃ k : Nat, k ≤ S.length ∧ i = .int .i64 ((1 + (body (S.take k)).length : Nat) : Int) ∧ v = .slice (some ⟨w.heap.size, 0, none⟩) k n ∧ wr.ownsRow w.heap.size 5 1 (.slice (some ⟨w.heap.size, 0, none⟩) k n) k ((S.take k).map (Value.int .u8)) ∧ Below w.heap.size w wr) (fun _ i _ => n - (intOf i).toNat)
  case atStart => exact ⟨0, Nat.zero_le _, rfl, rfl, hown, hb1⟩
  case round =>
    obtain ⟨k, hk, rfl, rfl, ho, hbl⟩ := hrel
    clear hown hb1
    by_cases hlt : k < S.length
    · obtain ⟨c, hgk⟩ : ∃ c : Int, S[k]? = some c := ⟨_, List.getElem?_eq_getElem hlt⟩
      have hcb : 0 ≤ c ∧ c ≤ 255 := hS c (List.mem_of_getElem? hgk)
      have hbs := body_take_succ S k c hgk
      have hroom := lit_room S k c hgk
      rw [HN.out] at hroom
      have hle := (esc_len c).1
      have hat : ∀ j, j < (esc c).length → wr.cell? ⟨b, off + (1 + (body (S.take k)).length + j), none⟩ = some (.int .u8 ((esc c).getD j 0)) := fun j hj => by
        rw [← lit_at S k c hgk j hj]
        exact (hbl.cell (by exact hbw)).trans (hc _ (by omega))
      have htk : Hid ((S.take (k + 1)).map (Value.int .u8) = (S.take k).map (Value.int .u8) ++ [.int .u8 c]) := by
        show _ = _
        obtain ⟨hk', rfl⟩ := List.getElem?_eq_some_iff.1 hgk
        rw [List.take_succ_eq_append_getElem hk', List.map_append]; rfl
      have NX : Hid (1 + (body (S.take (k + 1))).length = 1 + (body (S.take k)).length + (esc c).length) := by show _ = _; rw [hbs, List.length_append]; omega
      have hkn : k + 1 ≤ n := by have := (body_len (S.take k)).1; have h3 : (S.take k).length = k := by simp; omega
                                 omega
      obtain ⟨p, hp⟩ : ∃ p, 1 + (body (S.take k)).length = p := ⟨_, rfl⟩
      rw [hp] at hroom hat NX ⊢
      have hp1 : 1 ≤ p := by omega
      clear hbs hgk hp hc
      by_cases h34 : c = 34
      · subst h34
        have a0 : wr.cell? ⟨b, off + p, none⟩ = some (.int .u8 92) := hat 0 (by decide)
        have a1 : wr.cell? ⟨b, off + (p + 1), none⟩ = some (.int .u8 34) := hat 1 (by decide)
        have el : (esc 34).length = 2 := rfl
        rw [el] at NX hroom
        clear hat hle el
        go_wp2_with (first
          | (go_at_call 13; refine (short_esc 34 34 (by simp) _).mono ?_; rintro e w' ⟨rfl, rfl⟩)
          | (at_builtin; refine wpList_append_fits _ rfl (.tmp 124) (.tmp 127) 22 rfl w.heap.size 5 i0 1 Try.underlying22 hi hz1 w.heap.size k n _ rfl (ho.alloc _) ⟨wr.heap.size, 0, none⟩ 1 1 [.int .u8 34] rfl rfl (cell_one_new _ _ _) (ones [34] _ rfl) hkn ?_))
        intro w2 ho2 hg2
        have hbl2 := (hbl.alloc hbl.size _).grown hg2 (Nat.le_trans hbl.size (by simp)) (fun q h => by cases h; exact Nat.le_refl _)
        have HO := hide ho2
        have HB := hide hbl2
        clear ho hbl hg2 ho2 hbl2
        go_wp2
        go_roundw
        case rel => exact ⟨k + 1, by omega, by rw [NX.out]; go_num, rfl, by rw [htk.out, List.map_take]; exact HO.out, HB.out⟩
        case measure => simp [intOf]; omega
      by_cases h92 : c = 92
      · subst h92
        have a0 : wr.cell? ⟨b, off + p, none⟩ = some (.int .u8 92) := hat 0 (by decide)
        have a1 : wr.cell? ⟨b, off + (p + 1), none⟩ = some (.int .u8 92) := hat 1 (by decide)
        have el : (esc 92).length = 2 := rfl
        rw [el] at NX hroom
        clear hat hle el
        go_wp2_with (first
          | (go_at_call 13; refine (short_esc 92 92 (by simp) _).mono ?_; rintro e w' ⟨rfl, rfl⟩)
          | (at_builtin; refine wpList_append_fits _ rfl (.tmp 124) (.tmp 127) 22 rfl w.heap.size 5 i0 1 Try.underlying22 hi hz1 w.heap.size k n _ rfl (ho.alloc _) ⟨wr.heap.size, 0, none⟩ 1 1 [.int .u8 92] rfl rfl (cell_one_new _ _ _) (ones [92] _ rfl) hkn ?_))
        intro w2 ho2 hg2
        have hbl2 := (hbl.alloc hbl.size _).grown hg2 (Nat.le_trans hbl.size (by simp)) (fun q h => by cases h; exact Nat.le_refl _)
        have HO := hide ho2
        have HB := hide hbl2
        clear ho hbl hg2 ho2 hbl2
        go_wp2
        go_roundw
        case rel => exact ⟨k + 1, by omega, by rw [NX.out]; go_num, rfl, by rw [htk.out, List.map_take]; exact HO.out, HB.out⟩
        case measure => simp [intOf]; omega
      by_cases h10 : c = 10
      · subst h10
        have a0 : wr.cell? ⟨b, off + p, none⟩ = some (.int .u8 92) := hat 0 (by decide)
        have a1 : wr.cell? ⟨b, off + (p + 1), none⟩ = some (.int .u8 110) := hat 1 (by decide)
        have el : (esc 10).length = 2 := rfl
        rw [el] at NX hroom
        clear hat hle el
        go_wp2_with (first
          | (go_at_call 13; refine (short_esc 110 10 (by simp) _).mono ?_; rintro e w' ⟨rfl, rfl⟩)
          | (at_builtin; refine wpList_append_fits _ rfl (.tmp 124) (.tmp 127) 22 rfl w.heap.size 5 i0 1 Try.underlying22 hi hz1 w.heap.size k n _ rfl (ho.alloc _) ⟨wr.heap.size, 0, none⟩ 1 1 [.int .u8 10] rfl rfl (cell_one_new _ _ _) (ones [10] _ rfl) hkn ?_))
        intro w2 ho2 hg2
        have hbl2 := (hbl.alloc hbl.size _).grown hg2 (Nat.le_trans hbl.size (by simp)) (fun q h => by cases h; exact Nat.le_refl _)
        have HO := hide ho2
        have HB := hide hbl2
        clear ho hbl hg2 ho2 hbl2
        go_wp2
        go_roundw
        case rel => exact ⟨k + 1, by omega, by rw [NX.out]; go_num, rfl, by rw [htk.out, List.map_take]; exact HO.out, HB.out⟩
        case measure => simp [intOf]; omega
      by_cases h13 : c = 13
      · subst h13
        have a0 : wr.cell? ⟨b, off + p, none⟩ = some (.int .u8 92) := hat 0 (by decide)
        have a1 : wr.cell? ⟨b, off + (p + 1), none⟩ = some (.int .u8 114) := hat 1 (by decide)
        have el : (esc 13).length = 2 := rfl
        rw [el] at NX hroom
        clear hat hle el
        go_wp2_with (first
          | (go_at_call 13; refine (short_esc 114 13 (by simp) _).mono ?_; rintro e w' ⟨rfl, rfl⟩)
          | (at_builtin; refine wpList_append_fits _ rfl (.tmp 124) (.tmp 127) 22 rfl w.heap.size 5 i0 1 Try.underlying22 hi hz1 w.heap.size k n _ rfl (ho.alloc _) ⟨wr.heap.size, 0, none⟩ 1 1 [.int .u8 13] rfl rfl (cell_one_new _ _ _) (ones [13] _ rfl) hkn ?_))
        intro w2 ho2 hg2
        have hbl2 := (hbl.alloc hbl.size _).grown hg2 (Nat.le_trans hbl.size (by simp)) (fun q h => by cases h; exact Nat.le_refl _)
        have HO := hide ho2
        have HB := hide hbl2
        clear ho hbl hg2 ho2 hbl2
        go_wp2
        go_roundw
        case rel => exact ⟨k + 1, by omega, by rw [NX.out]; go_num, rfl, by rw [htk.out, List.map_take]; exact HO.out, HB.out⟩
        case measure => simp [intOf]; omega
      by_cases h9 : c = 9
      · subst h9
        have a0 : wr.cell? ⟨b, off + p, none⟩ = some (.int .u8 92) := hat 0 (by decide)
        have a1 : wr.cell? ⟨b, off + (p + 1), none⟩ = some (.int .u8 116) := hat 1 (by decide)
        have el : (esc 9).length = 2 := rfl
        rw [el] at NX hroom
        clear hat hle el
        go_wp2_with (first
          | (go_at_call 13; refine (short_esc 116 9 (by simp) _).mono ?_; rintro e w' ⟨rfl, rfl⟩)
          | (at_builtin; refine wpList_append_fits _ rfl (.tmp 124) (.tmp 127) 22 rfl w.heap.size 5 i0 1 Try.underlying22 hi hz1 w.heap.size k n _ rfl (ho.alloc _) ⟨wr.heap.size, 0, none⟩ 1 1 [.int .u8 9] rfl rfl (cell_one_new _ _ _) (ones [9] _ rfl) hkn ?_))
        intro w2 ho2 hg2
        have hbl2 := (hbl.alloc hbl.size _).grown hg2 (Nat.le_trans hbl.size (by simp)) (fun q h => by cases h; exact Nat.le_refl _)
        have HO := hide ho2
        have HB := hide hbl2
        clear ho hbl hg2 ho2 hbl2
        go_wp2
        go_roundw
        case rel => exact ⟨k + 1, by omega, by rw [NX.out]; go_num, rfl, by rw [htk.out, List.map_take]; exact HO.out, HB.out⟩
        case measure => simp [intOf]; omega
      by_cases h8 : c = 8
      · subst h8
        have a0 : wr.cell? ⟨b, off + p, none⟩ = some (.int .u8 92) := hat 0 (by decide)
        have a1 : wr.cell? ⟨b, off + (p + 1), none⟩ = some (.int .u8 98) := hat 1 (by decide)
        have el : (esc 8).length = 2 := rfl
        rw [el] at NX hroom
        clear hat hle el
        go_wp2_with (first
          | (go_at_call 13; refine (short_esc 98 8 (by simp) _).mono ?_; rintro e w' ⟨rfl, rfl⟩)
          | (at_builtin; refine wpList_append_fits _ rfl (.tmp 124) (.tmp 127) 22 rfl w.heap.size 5 i0 1 Try.underlying22 hi hz1 w.heap.size k n _ rfl (ho.alloc _) ⟨wr.heap.size, 0, none⟩ 1 1 [.int .u8 8] rfl rfl (cell_one_new _ _ _) (ones [8] _ rfl) hkn ?_))
        intro w2 ho2 hg2
        have hbl2 := (hbl.alloc hbl.size _).grown hg2 (Nat.le_trans hbl.size (by simp)) (fun q h => by cases h; exact Nat.le_refl _)
        have HO := hide ho2
        have HB := hide hbl2
        clear ho hbl hg2 ho2 hbl2
        go_wp2
        go_roundw
        case rel => exact ⟨k + 1, by omega, by rw [NX.out]; go_num, rfl, by rw [htk.out, List.map_take]; exact HO.out, HB.out⟩
        case measure => simp [intOf]; omega
      by_cases h12 : c = 12
      · subst h12
        have a0 : wr.cell? ⟨b, off + p, none⟩ = some (.int .u8 92) := hat 0 (by decide)
        have a1 : wr.cell? ⟨b, off + (p + 1), none⟩ = some (.int .u8 102) := hat 1 (by decide)
        have el : (esc 12).length = 2 := rfl
        rw [el] at NX hroom
        clear hat hle el
        go_wp2_with (first
          | (go_at_call 13; refine (short_esc 102 12 (by simp) _).mono ?_; rintro e w' ⟨rfl, rfl⟩)
          | (at_builtin; refine wpList_append_fits _ rfl (.tmp 124) (.tmp 127) 22 rfl w.heap.size 5 i0 1 Try.underlying22 hi hz1 w.heap.size k n _ rfl (ho.alloc _) ⟨wr.heap.size, 0, none⟩ 1 1 [.int .u8 12] rfl rfl (cell_one_new _ _ _) (ones [12] _ rfl) hkn ?_))
        intro w2 ho2 hg2
        have hbl2 := (hbl.alloc hbl.size _).grown hg2 (Nat.le_trans hbl.size (by simp)) (fun q h => by cases h; exact Nat.le_refl _)
        have HO := hide ho2
        have HB := hide hbl2
        clear ho hbl hg2 ho2 hbl2
        go_wp2
        go_roundw
        case rel => exact ⟨k + 1, by omega, by rw [NX.out]; go_num, rfl, by rw [htk.out, List.map_take]; exact HO.out, HB.out⟩
        case measure => simp [intOf]; omega
      have e34 : (c == 34) = false := by simpa using h34
      have e92 : (c == 92) = false := by simpa using h92
      by_cases h32 : c < 32
      · have he := esc_u h32 h10 h13 h9 h8 h12
        rw [he] at NX hroom hat
        have a0 : wr.cell? ⟨b, off + p, none⟩ = some (.int .u8 92) := hat 0 (by simp)
        have a1 : wr.cell? ⟨b, off + (p + 1), none⟩ = some (.int .u8 117) := hat 1 (by simp)
        have a2 : wr.cell? ⟨b, off + (p + 2), none⟩ = some (.int .u8 48) := hat 2 (by simp)
        have a3 : wr.cell? ⟨b, off + (p + 3), none⟩ = some (.int .u8 48) := hat 3 (by simp)
        have a4 : wr.cell? ⟨b, off + (p + 4), none⟩ = some (.int .u8 (hexd (c / 16))) := hat 4 (by simp)
        have a5 : wr.cell? ⟨b, off + (p + 5), none⟩ = some (.int .u8 (hexd (c % 16))) := hat 5 (by simp)
        simp only [List.length_cons, List.length_nil] at NX hroom
        clear hat hle he
        have e10 : (c == 10) = false := by simpa using h10
        have e13 : (c == 13) = false := by simpa using h13
        have e9 : (c == 9) = false := by simpa using h9
        have e8 : (c == 8) = false := by simpa using h8
        have e12 : (c == 12) = false := by simpa using h12
        have d1 : decide ((p : Int) < (n : Int) - 1) = true := decide_eq_true (by omega)
        have d2 : decide ((n : Int) - 1 ≤ (p : Int) + 1) = false := decide_eq_false (by omega)
        have d3 : decide ((n : Int) - 1 ≤ (p : Int) + 5) = false := decide_eq_false (by omega)
        go_wp2
        go_loop [9, 10] (fun v j => (j = .int .i64 ((p : Int) + 2) ∧ v = .int .i64 0) ∨ (j = .int .i64 ((p : Int) + 3) ∧ v = .int .i64 0) ∨ (j = .int .i64 ((p : Int) + 4) ∧ v = .int .i64 0) ∨ (j = .int .i64 ((p : Int) + 5) ∧ v = .int .i64 (c / 16)) ∨ (j = .int .i64 ((p : Int) + 6) ∧ v = .int .i64 c)) (fun _ j => p + 6 - (intOf j).toNat)
        case atStart => exact .inl ⟨rfl, rfl⟩
        case round =>
          rcases hrel with ⟨rfl, rfl⟩ | ⟨rfl, rfl⟩ | ⟨rfl, rfl⟩ | ⟨rfl, rfl⟩ | ⟨rfl, rfl⟩
          · go_wp2_with (go_at_call 12; refine (lower_hex 0 48 (by omega) (by omega) rfl _).mono ?_; rintro e w' ⟨rfl, rfl⟩)
            go_round
            case rel => exact .inr (.inl ⟨by go_num, by go_num⟩)
            case measure => simp [intOf]; omega
          · go_wp2_with (go_at_call 12; refine (lower_hex 0 48 (by omega) (by omega) rfl _).mono ?_; rintro e w' ⟨rfl, rfl⟩)
            go_round
            case rel => exact .inr (.inr (.inl ⟨by go_num, by go_num⟩))
            case measure => simp [intOf]; omega
          · go_wp2_with (go_at_call 12; refine (lower_hex (c / 16) (hexd (c / 16)) (by omega) (by omega) rfl _).mono ?_; rintro e w' ⟨rfl, rfl⟩)
            go_round
            case rel => exact .inr (.inr (.inr (.inl ⟨by go_num, by go_num⟩)))
            case measure => simp [intOf]; omega
          · go_wp2_with (go_at_call 12; refine (lower_hex (c % 16) (hexd (c % 16)) (by omega) (by omega) rfl _).mono ?_; rintro e w' ⟨rfl, rfl⟩)
            go_round
            case rel => exact .inr (.inr (.inr (.inr ⟨by go_num, by go_num⟩)))
            case measure => simp [intOf]; omega
          · clear a0 a1 a2 a3 a4 a5
            go_wp2_with (first
              | (at_builtin; refine wpList_append_fits _ rfl (.tmp 113) (.tmp 116) 22 rfl w.heap.size 5 i0 1 Try.underlying22 hi hz1 w.heap.size k n _ rfl (ho.alloc _) ⟨wr.heap.size, 0, none⟩ 1 1 [.int .u8 c] rfl rfl (cell_one_new _ _ _) (ones [c] _ rfl) hkn ?_)
              | go_in)
            intro w2 ho2 hg2
            have hbl2 := (hbl.alloc hbl.size _).grown hg2 (Nat.le_trans hbl.size (by simp)) (fun q h => by cases h; exact Nat.le_refl _)
            have HO := hide ho2
            have HB := hide hbl2
            clear ho hbl hg2 ho2 hbl2
            go_wp2
            go_roundw
            case rel => exact ⟨k + 1, by omega, by rw [NX.out]; go_num, rfl, by rw [htk.out, List.map_take]; exact HO.out, HB.out⟩
            case measure => simp [intOf]; omega
      · have h32' : 32 ≤ c := by omega
        have he := esc_raw h32' h34 h92
        rw [he] at NX hroom hat
        have a0 : wr.cell? ⟨b, off + p, none⟩ = some (.int .u8 c) := hat 0 (by simp)
        simp only [List.length_cons, List.length_nil] at NX hroom
        clear hat hle he
        go_wp2_with (first
          | (at_builtin; refine wpList_append_fits _ rfl (.tmp 49) (.tmp 51) 22 rfl w.heap.size 5 i0 1 Try.underlying22 hi hz1 w.heap.size k n _ rfl (ho.alloc _) ⟨wr.heap.size, 0, none⟩ 1 1 [.int .u8 c] rfl rfl (cell_one_new _ _ _) (ones [c] _ rfl) hkn ?_)
          | go_in)
        intro w2 ho2 hg2
        have hbl2 := (hbl.alloc hbl.size _).grown hg2 (Nat.le_trans hbl.size (by simp)) (fun q h => by cases h; exact Nat.le_refl _)
        have HO := hide ho2
        have HB := hide hbl2
        clear ho hbl hg2 ho2 hbl2
        go_wp2
        go_roundw
        case rel => exact ⟨k + 1, by omega, by rw [NX.out]; go_num, rfl, by rw [htk.out, List.map_take]; exact HO.out, HB.out⟩
        case measure => simp [intOf]; omega
    · obtain rfl : k = S.length := by omega
      have hp : 1 + (body (S.take S.length)).length + 1 = n := by rw [← HN.out, lit_len, List.take_length]; omega
      obtain ⟨p, hp'⟩ : ∃ p, 1 + (body (S.take S.length)).length = p := ⟨_, rfl⟩
      rw [hp'] at hp ⊢
      have h1 : n ≤ p + 1 := by omega
      have h2 : p + 1 ≤ n := by omega
      rw [List.take_length] at ho
      clear hp' hp
      go_wp2
      go_ret2
      exact ⟨n, rfl, ho, hbl⟩
end Go.Proofs.Qxb6619861a
