import Derived.Test.Qxb6619861aRows
import Derived.WalkKit
import Derived.ProofKit
import Derived.Below
import Derived.WalkSpells
import Derived.WalkLawsBesides
import Derived.Lib.SliceRun
import Derived.Deep.QuietTactic
import Derived.BigQuiet
namespace Go.Proofs.Qxb6619861a
open Go.ChangeShapes Go.WideShapes Go.ChangeAt Go.RowKit

theorem Try.info5 : (Try.prog.info? 5).map (fun i => (i.zero, i.size, i.bytes)) = some (some (.int .u8 0), 1, 1) := by kernel_rfl

/-- What 'make' and k stores have laid: the first k numbers, then zeros. -/
def part (zs : List Int) (k : Nat) : List Value := (zs.take k).map (Value.int .u8) ++ List.replicate (zs.length - k) (.int .u8 0)

theorem part_zero (zs : List Int) : part zs 0 = List.replicate zs.length (.int .u8 0) := by simp [part]
theorem part_full (zs : List Int) : part zs zs.length = zs.map (Value.int .u8) := by simp [part]
theorem part_set (zs : List Int) (k : Nat) (h : k < zs.length) : (part zs k).set k (.int .u8 (zs.getD k 0)) = part zs (k + 1) := by
  unfold part
  obtain ⟨m, hm⟩ : ∃ m, zs.length - k = m + 1 := ⟨zs.length - k - 1, by omega⟩
  have hm' : zs.length - (k + 1) = m := by omega
  rw [hm, hm', List.set_append_right _ _ (by simp; omega), List.take_succ_eq_append_getElem h]
  have hl : ((zs.take k).map (Value.int .u8)).length = k := by simp; omega
  rw [hl, Nat.sub_self, List.map_append, List.append_assoc]
  simp only [List.replicate_succ, List.set_cons_zero, List.map_cons, List.map_nil, List.cons_append, List.nil_append]
  simp [List.getD, h]

/-- nil in, nil out. -/
theorem clone_nil (w : World) :
    Calls Try.prog 6 #[.slice none 0 0] w fun e w' => e = .returned (.slice none 0 0) ∧ w = w' := by
  have q22 : ∀ (w : World) (a : Option Addr) (n c n' c' : Nat), (binOp .eql 22 (.slice a n c) (.slice none n' c')).run Try.prog w = .ok (.bool a.isNone) w := fun w a n c n' c' => Lib.run_eql_slice_nil w _ _ a n c n' c' Try.underlying22
  go_enter Try.func6, Try.ntmps6
  go_wp2
  go_ret
  exact ⟨rfl, rfl⟩

set_option maxHeartbeats 400000 in
/-- A slice that is not nil: a new row of its own with the same numbers. -/
theorem clone_row (b off len cap : Nat) (zs : List Int) (w : World) (hl : zs.length = len) (hb : len ≤ 1048576) (hc : ∀ i, i < len → w.cell? ⟨b, off + i, none⟩ = some (.int .u8 (zs.getD i 0))) (hbw : 0 < len → b < w.heap.size) :
    Calls Try.prog 6 #[.slice (some ⟨b, off, none⟩) len cap] w fun e w' => e = .returned (.slice (some ⟨w.heap.size, 0, none⟩) len len) ∧
      w'.ownsRow w.heap.size 5 1 (.slice (some ⟨w.heap.size, 0, none⟩) len len) len (zs.map (Value.int .u8)) ∧ Below w.heap.size w w' := by
  have q22 : ∀ (w : World) (a : Option Addr) (n c n' c' : Nat), (binOp .eql 22 (.slice a n c) (.slice none n' c')).run Try.prog w = .ok (.bool a.isNone) w := fun w a n c n' c' => Lib.run_eql_slice_nil w _ _ a n c n' c' Try.underlying22
  obtain ⟨i0, hi, hz0, hz1, hz2⟩ := info_parts Try.info5
  go_enter Try.func6, Try.ntmps6
  go_wp2_with (first
    | (at_make; refine wpList_make_full _ rfl _ _ 22 rfl w.heap.size 5 i0 (.int .u8 0) 1 Try.underlying22 hi hz0 hz1 _ _ _ _ len rfl rfl rfl rfl ?b1 ?b2 (Nat.le_refl _) ?_)
    | go_in)
  case b1 => rw [hz2]; omega
  case b2 => unfold maxLen; omega
  intro w1 hown hgrow
  have e0 : (madeCells #[Value.int .u8 0] len).toList = part zs 0 := by rw [part_zero, hl]; exact toList_madeCells_one _ _
  rw [e0] at hown
  have hb1 : Below w.heap.size w w1 := (Below.refl _ _).grown hgrow (Nat.le_refl _) (fun k h => by cases h)
  clear hgrow e0
  go_wp2
  go_loopw [4] (fun i wr => ∃ k : Nat, k ≤ len ∧ i = .int .i64 k ∧ wr.ownsRow w.heap.size 5 1 (.slice (some ⟨w.heap.size, 0, none⟩) len len) len (part zs k) ∧ Below w.heap.size w wr) (fun i _ => len - (intOf i).toNat)
  case atStart => exact ⟨0, Nat.zero_le _, rfl, hown, hb1⟩
  case round =>
    obtain ⟨k, hk, rfl, ho, hbl⟩ := hrel
    by_cases hlt : k < len
    · obtain ⟨z, hz⟩ : ∃ z, zs.getD k 0 = z := ⟨_, rfl⟩
      have hcx : wr.cell? ⟨b, off + k, none⟩ = some (.int .u8 z) := hz ▸ (hbl.cell (by exact hbw (by omega))).trans (hc k hlt)
      have hfz := ho.frozenAt k
      obtain ⟨v3, hv3⟩ : ∃ v3, wr.cell? ⟨w.heap.size, k, none⟩ = some v3 := ⟨_, (ho.cellAt k (by omega)).trans (List.getElem?_eq_getElem (by rw [ho.1]; omega))⟩
      have hst := ho.stored k (.int .u8 z)
      rw [← hz, part_set zs k (by omega), hz] at hst
      have hbl2 := hbl.setCell (p := ⟨w.heap.size, k, none⟩) (Nat.le_refl _) (.int .u8 z)
      have R := hst.1
      clear ho hst hbl hc hown hb1 hz
      go_wp2
      go_roundw
      case rel => exact ⟨k + 1, by omega, by go_num, R, hbl2⟩
      case measure => simp [intOf]; omega
    · obtain rfl : k = len := by omega
      go_wp2
      go_ret
      subst hl
      rw [part_full] at ho
      exact ⟨rfl, ho, hbl⟩

/-- An empty slice that is not nil, wherever it points. -/
theorem clone_empty (x : Addr) (cap : Nat) (w : World) :
    Calls Try.prog 6 #[.slice (some x) 0 cap] w fun e w' => e = .returned (.slice (some ⟨w.heap.size, 0, none⟩) 0 0) ∧
      w'.ownsRow w.heap.size 5 1 (.slice (some ⟨w.heap.size, 0, none⟩) 0 0) 0 (([] : List Int).map (Value.int .u8)) ∧ Below w.heap.size w w' := by
  have q22 : ∀ (w : World) (a : Option Addr) (n c n' c' : Nat), (binOp .eql 22 (.slice a n c) (.slice none n' c')).run Try.prog w = .ok (.bool a.isNone) w := fun w a n c n' c' => Lib.run_eql_slice_nil w _ _ a n c n' c' Try.underlying22
  have hmk : ∀ w, (Instr.makeSlice 22 (.int .i64 0) (.int .i64 0)).run Try.prog w = .ok (.slice (some ⟨w.heap.size, 0, none⟩) 0 0) (w.alloc (.cells #[] 5)) := fun _ => by kernel_rfl
  go_enter Try.func6, Try.ntmps6
  go_wp2
  refine wp_loop_rounds 1 ?_
  rw [rounds_succ]
  go_wp2
  go_ret
  exact ⟨rfl, ⟨rfl, .inr ⟨w.heap.size, 0, #[], rfl, Nat.le_refl _, heap_alloc_new w _, Nat.le_refl _, Nat.zero_le _, rfl, rfl⟩⟩, (Below.refl _ _).alloc (Nat.le_refl _) _⟩
end Go.Proofs.Qxb6619861a
