/- THE PLAIN MATHEMATICS OF FLOATS, first part: what a word reads as; the relation 'the same magnitude, the sign turned or not'; that the operations keep it. No Go in sight. -/
import Ieee.Arith
import Derived.Laws.FloatBits
namespace Go.Proofs.Qxb6621625a
open Ieee

/-- The rung of the nearest word: it does not hang on the sign. -/
def rungOf (f : Format) (mag : Nat) (place : Int) : Nat :=
  if mag = 0 then 0 else
  min ((max (place + mag.log2 - f.fractionBits) f.leastPlace - f.leastPlace).toNat * f.binade +
    Toward.even.cut false (mag <<< (place - max (place + mag.log2 - f.fractionBits) f.leastPlace).toNat) (max (place + mag.log2 - f.fractionBits) f.leastPlace - place).toNat) f.infRung

theorem nearest_eq (f : Format) (neg : Bool) (mag : Nat) (place : Int) : f.nearest neg mag place = f.word neg (rungOf f mag place) := by
  unfold Format.nearest rungOf
  split <;> rfl

theorem rungOf_le (f : Format) (mag : Nat) (place : Int) : rungOf f mag place ≤ f.infRung := by
  unfold rungOf
  split
  · exact Nat.zero_le _
  · exact Nat.min_le_right _ _

/-- What a sign and a rung stand for. -/
def mk (f : Format) (neg : Bool) (R : Nat) : Datum :=
  if R < f.binade then .number neg R f.leastPlace
  else if R < f.infRung then .number neg (f.binade + R % f.binade) (f.leastPlace + (R / f.binade - 1 : Nat))
  else if R = f.infRung then .infinity neg
  else .nan neg (R - f.infRung)

theorem read_word (f : Format) (neg : Bool) (R : Nat) (h : R < f.signWeight) : f.read (f.word neg R) = mk f neg R := by
  have hs : 0 < f.signWeight := Nat.two_pow_pos _
  have h1 : f.word neg R % f.signWeight = R := by
    unfold Format.word
    cases neg
    · simpa using Nat.mod_eq_of_lt h
    · simpa using Nat.mod_eq_of_lt h
  have h2 : (f.word neg R / f.signWeight % 2 == 1) = neg := by
    unfold Format.word
    cases neg
    · simp [Nat.div_eq_of_lt h]
    · simp [Nat.add_div_left, hs, Nat.div_eq_of_lt h]
  unfold Format.read mk
  simp only [h1, h2]

/-- THE RELATION: the same magnitude, the sign turned by s; a zero has whatever sign; a NaN stands to a NaN. -/
def dRel (s : Bool) : Datum → Datum → Prop
  | .number n m e, .number n' m' e' => m = m' ∧ e = e' ∧ (m = 0 ∨ n' = (n ^^ s))
  | .infinity n, .infinity n' => n' = (n ^^ s)
  | .nan .., .nan .. => True
  | _, _ => False

def oRel (s : Bool) : Option Datum → Option Datum → Prop
  | none, none => True
  | some a, some b => dRel s a b ∧ a.isNaN = false
  | _, _ => False

theorem mk_rel (f : Format) (s n n' : Bool) (R : Nat) (h : R = 0 ∨ n' = (n ^^ s)) : dRel s (mk f n R) (mk f n' R) := by
  unfold mk
  split
  · exact ⟨rfl, rfl, h⟩
  · rename_i h0
    have hb : 0 < f.binade := Nat.two_pow_pos _
    have hn : n' = (n ^^ s) := h.resolve_left (by omega)
    split
    · exact ⟨rfl, rfl, .inr hn⟩
    · split
      · exact hn
      · trivial

theorem mk_notNaN (f : Format) (n : Bool) (R : Nat) (h : R ≤ f.infRung) : (mk f n R).isNaN = false := by
  unfold mk
  split
  · rfl
  · split
    · rfl
    · rw [if_pos (by omega)]; rfl

/-- Writing keeps the relation. -/
theorem write_rel (f : Format) {s : Bool} {a b : Datum} (h : dRel s a b) (hn : a.isNaN = false) : dRel s (f.read (f.write a)) (f.read (f.write b)) ∧ (f.read (f.write a)).isNaN = false := by
  cases a with
  | nan => cases hn
  | number n m e =>
    cases b with
    | number n' m' e' =>
      obtain ⟨rfl, rfl, h3⟩ := h
      have hl : rungOf f m e < f.signWeight := Nat.lt_of_le_of_lt (rungOf_le f m e) f.infRung_lt
      simp only [Format.write, nearest_eq]
      rw [read_word f n _ hl, read_word f n' _ hl]
      refine ⟨mk_rel f s n n' _ (h3.imp (fun h0 => ?_) id), mk_notNaN f n _ (rungOf_le f m e)⟩
      unfold rungOf
      rw [if_pos h0]
    | infinity => cases h
    | nan => cases h
  | infinity n =>
    cases b with
    | infinity n' =>
      simp only [Format.write]
      rw [read_word f n _ f.infRung_lt, read_word f n' _ f.infRung_lt]
      exact ⟨mk_rel f s n n' _ (.inr h), mk_notNaN f n _ (Nat.le_refl _)⟩
    | number => cases h
    | nan => cases h

theorem signed_rel {s n n' : Bool} {m : Nat} (up : Nat) (h : m = 0 ∨ n' = (n ^^ s)) : signed n' m up = if s then - signed n m up else signed n m up := by
  rcases h with rfl | rfl
  · cases s <;> cases n <;> cases n' <;> simp [signed]
  · cases s <;> cases n <;> simp [signed]

theorem opposite_rel {s : Bool} {a b : Datum} (h : dRel s a b) : dRel s a.opposite b.opposite := by
  cases a <;> cases b <;> first | exact h.elim | skip
  · obtain ⟨h1, h2, h3⟩ := h
    refine ⟨h1, h2, h3.imp id fun h => ?_⟩
    rw [h]; cases s <;> simp
  · rename_i n n'
    show (!n') = (!n ^^ s)
    have h : n' = (n ^^ s) := h
    rw [h]; cases s <;> simp
  · trivial

theorem product_rel {s t : Bool} {a a' b b' : Datum} (ha : dRel s a a') (hb : dRel t b b') : oRel (s ^^ t) (a.product b) (a'.product b') := by
  cases a <;> cases a' <;> first | exact ha.elim | skip
  · rename_i n m e n' m' e'
    obtain ⟨rfl, rfl, h3⟩ := ha
    cases b <;> cases b' <;> first | exact hb.elim | skip
    · rename_i q l i q' l' i'
      obtain ⟨rfl, rfl, g3⟩ := hb
      refine ⟨⟨rfl, rfl, ?_⟩, rfl⟩
      rcases h3 with rfl | rfl
      · exact .inl (Nat.zero_mul _)
      · rcases g3 with rfl | rfl
        · exact .inl (Nat.mul_zero _)
        · right; cases n <;> cases q <;> cases s <;> cases t <;> rfl
    · rename_i q q'
      have hb : q' = (q ^^ t) := hb
      simp only [Datum.product]
      by_cases hm : m = 0
      · simp [hm, oRel]
      · rw [if_neg hm, if_neg hm]
        obtain rfl := h3.resolve_left hm
        subst hb
        refine ⟨?_, rfl⟩
        show (q ^^ t ^^ (n ^^ s)) = (q ^^ n ^^ (s ^^ t))
        cases n <;> cases q <;> cases s <;> cases t <;> rfl
    · simp [Datum.product, oRel]
  · rename_i n n'
    have ha : n' = (n ^^ s) := ha
    cases b <;> cases b' <;> first | exact hb.elim | skip
    · rename_i q l i q' l' i'
      obtain ⟨rfl, rfl, g3⟩ := hb
      simp only [Datum.product]
      by_cases hm : l = 0
      · simp [hm, oRel]
      · rw [if_neg hm, if_neg hm]
        obtain rfl := g3.resolve_left hm
        subst ha
        refine ⟨?_, rfl⟩
        show (n ^^ s ^^ (q ^^ t)) = (n ^^ q ^^ (s ^^ t))
        cases n <;> cases q <;> cases s <;> cases t <;> rfl
    · rename_i q q'
      have hb : q' = (q ^^ t) := hb
      subst ha hb
      refine ⟨?_, rfl⟩
      show (n ^^ s ^^ (q ^^ t)) = (n ^^ q ^^ (s ^^ t))
      cases n <;> cases q <;> cases s <;> cases t <;> rfl
    · simp [Datum.product, oRel]
  · cases b <;> cases b' <;> first | exact hb.elim | simp [Datum.product, oRel]

theorem sum_rel {s : Bool} {a a' b b' : Datum} (ha : dRel s a a') (hb : dRel s b b') : oRel s (a.sum b) (a'.sum b') := by
  cases a <;> cases a' <;> first | exact ha.elim | skip
  · rename_i n m e n' m' e'
    obtain ⟨rfl, rfl, h3⟩ := ha
    cases b <;> cases b' <;> first | exact hb.elim | skip
    · rename_i q l i q' l' i'
      obtain ⟨rfl, rfl, g3⟩ := hb
      simp only [Datum.sum]
      rw [signed_rel _ h3, signed_rel _ g3]
      generalize signed n m (e - min e i).toNat = x
      generalize signed q l (i - min e i).toNat = y
      have ht : ((if s = true then -x else x) + (if s = true then -y else y)) = if s = true then -(x + y) else x + y := by cases s <;> simp; omega
      rw [ht]
      generalize x + y = z
      have hz : (if s = true then -z else z).natAbs = z.natAbs := by cases s <;> simp
      refine ⟨⟨hz.symm, rfl, ?_⟩, rfl⟩
      by_cases h0 : z = 0
      · left; simp [h0]
      · right
        have h0' : ¬ (if s = true then -z else z) = 0 := by cases s <;> simp [h0]
        rw [if_neg h0, if_neg h0']
        cases s
        · simp
        · simp only [if_true, Bool.xor_true]
          by_cases hneg : z < 0
          · simp [hneg]; omega
          · simp [hneg]; omega
    · simp only [Datum.sum]; exact ⟨hb, rfl⟩
    · simp [Datum.sum, oRel]
  · rename_i n n'
    have ha' : n' = (n ^^ s) := ha
    cases b <;> cases b' <;> first | exact hb.elim | skip
    · simp only [Datum.sum]; exact ⟨ha, rfl⟩
    · rename_i q q'
      have hb' : q' = (q ^^ s) := hb
      subst ha' hb'
      simp only [Datum.sum]
      by_cases h : n = q
      · subst h
        rw [if_pos rfl, if_pos rfl]; exact ⟨ha, rfl⟩
      · rw [if_neg h, if_neg (by cases n <;> cases q <;> cases s <;> simp_all)]; trivial
    · simp [Datum.sum, oRel]
  · cases b <;> cases b' <;> first | exact hb.elim | simp [Datum.sum, oRel]

theorem quotient_rel (d : Nat) {s : Bool} {a a' b b' : Datum} (ha : dRel s a a') (hb : dRel false b b') (hz : b.isZero = false) : oRel s (a.quotient d b) (a'.quotient d b') := by
  cases a <;> cases a' <;> first | exact ha.elim | skip
  · rename_i n m e n' m' e'
    obtain ⟨rfl, rfl, h3⟩ := ha
    cases b <;> cases b' <;> first | exact hb.elim | skip
    · rename_i q l i q' l' i'
      obtain ⟨rfl, rfl, g3⟩ := hb
      have hl : ¬ l = 0 := fun h => by subst h; cases hz
      obtain rfl := g3.resolve_left hl
      simp only [Datum.quotient]
      rw [if_neg hl, if_neg hl]
      refine ⟨⟨rfl, rfl, ?_⟩, rfl⟩
      rcases h3 with rfl | rfl
      · left; simp
      · right; cases n <;> cases q <;> cases s <;> rfl
    · rename_i q q'
      simp only [Datum.quotient]
      exact ⟨⟨rfl, rfl, .inl rfl⟩, rfl⟩
    · simp [Datum.quotient, oRel]
  · rename_i n n'
    have ha' : n' = (n ^^ s) := ha
    subst ha'
    cases b <;> cases b' <;> first | exact hb.elim | skip
    · rename_i q l i q' l' i'
      obtain ⟨rfl, rfl, g3⟩ := hb
      have hl : ¬ l = 0 := fun h => by subst h; cases hz
      obtain rfl := g3.resolve_left hl
      simp only [Datum.quotient]
      refine ⟨?_, rfl⟩
      show (n ^^ s ^^ (q ^^ false)) = (n ^^ q ^^ s)
      cases n <;> cases q <;> cases s <;> rfl
    · simp [Datum.quotient, oRel]
    · simp [Datum.quotient, oRel]
  · cases b <;> cases b' <;> first | exact hb.elim | simp [Datum.quotient, oRel]

end Go.Proofs.Qxb6621625a
