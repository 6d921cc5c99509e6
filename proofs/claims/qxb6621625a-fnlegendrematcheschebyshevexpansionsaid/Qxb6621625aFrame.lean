/- WHAT A SLICE OF FLOATS THAT CAME IN IS LIKE. -/
import Derived.Test.Qxb6621625aSmall
import Derived.Deep.Slices
import Derived.ChangeOld
namespace Go.Proofs.Qxb6621625a
open Go.ChangeShapes Go.WideShapes Go.ChangeAt Go.RowKit

theorem own : ownKnob Try.prog.godebug = none := by kernel_rfl
theorem laidOut : laidOutB Try.prog = true := by kernel_rfl
theorem cells22 : Try.prog.cellsOf 22 = 1 := by kernel_rfl

theorem trod_float {H : Type} {enc : TypeId × Value → H} {P : Program} {w : World} {base : Nat} {spare : Nat → Bool} {held : Bool} {fuel : Nat} {t : TypeId} {cs : List Value} {x : DataW H × List MemPlace} {k : FloatKind}
    (ht : P.underlying t = some (.float k)) (h : DataW.trod enc P w base spare held fuel t cs = some x) : ∃ n, cs = [.float k n] := by
  cases fuel with
  | zero => simp [DataW.trod] at h
  | succ n =>
    unfold DataW.trod at h
    rw [ht] at h
    split at h <;> simp_all

/-- It is nil; or it leads to a row of floats. -/
def IsRow (w : World) (a : Option Addr) (len cap : Nat) : Prop :=
  (a = none ∧ len = 0 ∧ cap = 0) ∨
  ∃ x zs, a = some x ∧ len ≤ maxLen ∧ zs.length = len ∧ ∀ i v, (FL zs)[i]? = some v → w.cell? (x.add i) = some v

theorem row_of {H : Type} {enc : TypeId × Value → H} {w : World} {fuel : Nat} {a : Option Addr} {len cap : Nat} {x : DataW H × List MemPlace}
    (h : DataW.trod enc Try.prog w 0 (fun _ => true) true fuel 23 (Value.slice a len cap).cells.toList = some x) : IsRow w a len cap := by
  rcases Deep.open_slice1 Try.underlying23 cells22 h with ⟨hcs, _⟩ | ⟨b, l, c, m, n, V, D, Pl, hcs, _, hl, hm, hmm, _, hx⟩
  · simp [Value.cells] at hcs
    exact .inl hcs
  · simp [Value.cells] at hcs
    obtain ⟨rfl, rfl, rfl⟩ := hcs
    have hlm : len ≤ m := by rw [hmm]; simpa using hl
    have hV : ∀ i, i < len → ∃ z, V i = .float .f64 z := fun i hi => by
      obtain ⟨z, hz⟩ := trod_float Try.underlying22 (hx i (by omega)).2
      exact ⟨z, by simpa using hz⟩
    have hzs : ∀ k, k ≤ len → ∃ zs : List Nat, zs.length = k ∧ ∀ i, i < k → V i = .float .f64 (zs.getD i 0) := by
      intro k
      induction k with
      | zero => intro _; exact ⟨[], rfl, fun i hi => absurd hi (Nat.not_lt_zero _)⟩
      | succ k ih =>
        intro hk
        obtain ⟨zs, h1, h2⟩ := ih (by omega)
        obtain ⟨z, hz⟩ := hV k (by omega)
        refine ⟨zs ++ [z], by simp [h1], fun i hi => ?_⟩
        by_cases hik : i < k
        · rw [h2 i hik]
          simp [List.getD, List.getElem?_append_left (show i < zs.length by omega)]
        · obtain rfl : i = k := by omega
          rw [hz, ← h1]
          simp [List.getD]
    obtain ⟨zs, h1, h2⟩ := hzs len (Nat.le_refl _)
    refine .inr ⟨b, zs, rfl, Nat.le_trans hl hm, h1, fun i v hv => ?_⟩
    have hi : i < len := by
      have := (List.getElem?_eq_some_iff.1 hv).1
      simpa [h1] using this
    rw [(hx i (by omega)).1, h2 i hi, ← hv]
    simp [List.getD, List.getElem?_eq_getElem (show i < zs.length by omega)]
end Go.Proofs.Qxb6621625a
