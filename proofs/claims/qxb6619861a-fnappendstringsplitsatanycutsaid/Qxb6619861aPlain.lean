/- THE PLAIN MATHEMATICS: what appendString writes for one byte, and that the decoder reads it back. No Go in sight. -/
namespace Go.Proofs.Qxb6619861a

/-- A hex digit's byte. -/
def hexd (n : Int) : Int := if n < 10 then 48 + n else 87 + n

/-- What is written for the byte c. -/
def esc (c : Int) : List Int :=
  if c = 34 then [92, 34] else if c = 92 then [92, 92] else if c = 10 then [92, 110] else if c = 13 then [92, 114] else if c = 9 then [92, 116]
  else if c = 8 then [92, 98] else if c = 12 then [92, 102] else if c < 32 then [92, 117, 48, 48, hexd (c / 16), hexd (c % 16)] else [c]

/-- What is written for a text. -/
def body (l : List Int) : List Int := l.flatMap esc

/-- The bytes of a string, as numbers. -/
def sb (s : ByteArray) : List Int := s.data.toList.map fun c => (c.toNat : Int)

theorem sb_length (s : ByteArray) : (sb s).length = s.size := by simp [sb]
theorem sb_get (s : ByteArray) (k : Nat) (h : k < s.size) : (sb s)[k]? = some ((s[k].toNat : Nat) : Int) := by
  have : k < s.data.toList.length := by simpa using h
  simp only [sb, List.getElem?_map, List.getElem?_eq_getElem this, Option.map_some]
  rfl
theorem sb_bounds (s : ByteArray) : ∀ c ∈ sb s, 0 ≤ c ∧ c ≤ 255 := by
  intro c hc
  simp only [sb, List.mem_map] at hc
  obtain ⟨u, _, rfl⟩ := hc
  have := u.toNat_lt
  omega

theorem esc_len (c : Int) : 1 ≤ (esc c).length ∧ (esc c).length ≤ 6 := by
  unfold esc
  repeat' split
  all_goals simp

theorem body_len (l : List Int) : l.length ≤ (body l).length ∧ (body l).length ≤ 6 * l.length := by
  induction l with
  | nil => simp [body]
  | cons c l ih =>
    have := esc_len c
    simp only [body, List.flatMap_cons, List.length_append, List.length_cons] at ih ⊢
    omega

theorem body_append (a b : List Int) : body (a ++ b) = body a ++ body b := by simp [body]
theorem body_cons (c : Int) (l : List Int) : body (c :: l) = esc c ++ body l := by simp [body]

theorem body_take_succ (l : List Int) (k : Nat) (c : Int) (h : l[k]? = some c) : body (l.take (k + 1)) = body (l.take k) ++ esc c := by
  obtain ⟨hk, rfl⟩ := List.getElem?_eq_some_iff.1 h
  rw [List.take_succ_eq_append_getElem hk, body_append, body_cons]
  simp [body]

theorem esc_34 : esc 34 = [92, 34] := rfl
theorem esc_92 : esc 92 = [92, 92] := rfl
theorem esc_10 : esc 10 = [92, 110] := rfl
theorem esc_13 : esc 13 = [92, 114] := rfl
theorem esc_9 : esc 9 = [92, 116] := rfl
theorem esc_8 : esc 8 = [92, 98] := rfl
theorem esc_12 : esc 12 = [92, 102] := rfl
theorem esc_u {c : Int} (h : c < 32) (h1 : ¬ c = 10) (h2 : ¬ c = 13) (h3 : ¬ c = 9) (h4 : ¬ c = 8) (h5 : ¬ c = 12) : esc c = [92, 117, 48, 48, hexd (c / 16), hexd (c % 16)] := by
  unfold esc
  rw [if_neg (by omega), if_neg (by omega), if_neg h1, if_neg h2, if_neg h3, if_neg h4, if_neg h5, if_pos h]
theorem esc_raw {c : Int} (h : 32 ≤ c) (h1 : ¬ c = 34) (h2 : ¬ c = 92) : esc c = [c] := by
  unfold esc
  rw [if_neg h1, if_neg h2, if_neg (by omega), if_neg (by omega), if_neg (by omega), if_neg (by omega), if_neg (by omega), if_neg (by omega)]

/-- One literal. -/
def lit (l : List Int) : List Int := 34 :: (body l ++ [34])
theorem lit_len (l : List Int) : (lit l).length = (body l).length + 2 := by simp [lit]

end Go.Proofs.Qxb6619861a
