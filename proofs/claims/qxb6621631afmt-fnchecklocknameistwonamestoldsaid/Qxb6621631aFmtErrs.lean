/- fmt.Errorf BY ITS CONTRACTS: what comes back is no nil, and its text can be read. -/
import Derived.Test.Qxb6621631aFmtFacts
import Derived.WalkKit
import Derived.ProofKit
import Derived.WalkSpells
import Derived.WalkLawsBesides
namespace Go.Proofs.Qxb6621631aFmt
open Go.RowKit Go.Extern.Stop Go.Stop Go.Extern
attribute [local go_sem] Tryf.call18 Tryf.guard Tryf.fmt0r Tryf.fmt1r Tryf.fmt2r Tryf.fmt3r Tryf.fmt4r Tryf.op3_100w Tryf.op5_120w Tryf.ptr32 Tryf.elem32 Tryf.isError32' Tryf.ptr36 Tryf.elem36 Tryf.isError36'

theorem hide {p : Prop} (h : p) : Hid p := h

/-- An error of errors.New's or fmt.Errorf's make, in memory. -/
def IsErr (w : World) (v : Value) : Prop := ∃ (T : TypeId) (a : Addr) (s : ByteArray), v = .iface T (.pointer (some a)) ∧ (T = 32 ∨ T = 36) ∧ w.cell? a = some (.string s)

/-- What every such call leaves. -/
def Errs (w w' : World) (e : Ending) : Prop := (∃ v, e = .returned v ∧ IsErr w' v) ∧ Below w.heap.size w w'

theorem errs_new (w : World) (T : TypeId) (hT : T = 32 ∨ T = 36) (s : ByteArray) (xs : List Value) (E : TypeId) : Errs w (w.alloc (.cells (Value.string s :: xs).toArray E)).drew (.returned (.iface T (.pointer (some ⟨w.heap.size, 0, none⟩)))) := by
  refine ⟨⟨_, rfl, T, _, s, rfl, hT, ?_⟩, ((Below.refl _ _).alloc (Nat.le_refl _) _).drew⟩
  show (w.alloc _).cell? _ = _
  rw [cell_of_row (w.alloc (.cells (Value.string s :: xs).toArray E)) w.heap.size 0 _ E (0, 0) (heap_alloc_new w _)]
  rfl

set_option maxHeartbeats 400000 in
theorem errorf_long (F : Interp) (b : Nat) (x y : Int) (w : World) (hF : F.answers w.tape) (h0 : w.cell? ⟨b, 0, none⟩ = some (.iface 3 (.int .i64 x))) (h1 : w.cell? ⟨b, 1, none⟩ = some (.iface 3 (.int .i64 y))) :
    Calls Tryf.prog 17 #[.string { data := #[105, 115, 32, 37, 100, 32, 98, 121, 116, 101, 115, 32, 108, 111, 110, 103, 44, 32, 109, 111, 114, 101, 32, 116, 104, 97, 110, 32, 37, 100] }, .slice (some ⟨b, 0, none⟩) 2 2] w fun e w' => Errs w w' e := by
  have hF' := answers_open hF
  go_enter Tryf.func17, Tryf.ntmps17
  go_wp2
  go_ret
  exact errs_new w 32 (.inl rfl) _ [] 34

set_option maxHeartbeats 400000 in
theorem errorf_byte (F : Interp) (b : Nat) (x y : Int) (w : World) (hF : F.answers w.tape) (h0 : w.cell? ⟨b, 0, none⟩ = some (.iface 5 (.int .u8 x))) (h1 : w.cell? ⟨b, 1, none⟩ = some (.iface 3 (.int .i64 y))) :
    Calls Tryf.prog 17 #[.string { data := #[104, 97, 115, 32, 98, 121, 116, 101, 32, 37, 35, 48, 50, 120, 32, 97, 116, 32, 111, 102, 102, 115, 101, 116, 32, 37, 100, 44, 32, 119, 104, 105, 99, 104, 32, 105, 115, 32, 110, 111, 116, 32, 112, 114, 105, 110, 116, 97, 98, 108, 101, 32, 65, 83, 67, 73, 73, 32, 111, 116, 104, 101, 114, 32, 116, 104, 97, 110, 32, 116, 104, 101, 32, 115, 112, 97, 99, 101] }, .slice (some ⟨b, 0, none⟩) 2 2] w fun e w' => Errs w w' e := by
  have hF' := answers_open hF
  go_enter Tryf.func17, Tryf.ntmps17
  go_wp2
  go_ret
  exact errs_new w 32 (.inl rfl) _ [] 34

set_option maxHeartbeats 400000 in
theorem errorf_name (F : Interp) (b : Nat) (v : Value) (w : World) (hF : F.answers w.tape) (h0 : w.cell? ⟨b, 0, none⟩ = some v) (hv : IsErr w v) :
    Calls Tryf.prog 17 #[.string { data := #[110, 97, 109, 101, 32, 37, 119] }, .slice (some ⟨b, 0, none⟩) 1 1] w fun e w' => Errs w w' e := by
  have hF' := answers_open hF
  obtain ⟨T, a, s, rfl, hT, hs⟩ := hv
  rcases hT with rfl | rfl
  · have hop := Tryf.opPlain32_119w "fmt.errorf" a s w hs
    go_enter Tryf.func17, Tryf.ntmps17
    go_wp2
    go_ret
    exact errs_new w 36 (.inr rfl) _ [_] 54
  · have hop := Tryf.opPlain36_119w "fmt.errorf" a s w hs
    go_enter Tryf.func17, Tryf.ntmps17
    go_wp2
    go_ret
    exact errs_new w 36 (.inr rfl) _ [_] 54

set_option maxHeartbeats 400000 in
theorem errorf_table (F : Interp) (b : Nat) (v : Value) (w : World) (hF : F.answers w.tape) (h0 : w.cell? ⟨b, 0, none⟩ = some v) (hv : IsErr w v) :
    Calls Tryf.prog 17 #[.string { data := #[116, 97, 98, 108, 101, 32, 37, 119] }, .slice (some ⟨b, 0, none⟩) 1 1] w fun e w' => Errs w w' e := by
  have hF' := answers_open hF
  obtain ⟨T, a, s, rfl, hT, hs⟩ := hv
  rcases hT with rfl | rfl
  · have hop := Tryf.opPlain32_119w "fmt.errorf" a s w hs
    go_enter Tryf.func17, Tryf.ntmps17
    go_wp2
    go_ret
    exact errs_new w 36 (.inr rfl) _ [_] 54
  · have hop := Tryf.opPlain36_119w "fmt.errorf" a s w hs
    go_enter Tryf.func17, Tryf.ntmps17
    go_wp2
    go_ret
    exact errs_new w 36 (.inr rfl) _ [_] 54

set_option maxHeartbeats 400000 in
theorem errorf_resource (F : Interp) (b : Nat) (v : Value) (w : World) (hF : F.answers w.tape) (h0 : w.cell? ⟨b, 0, none⟩ = some v) (hv : IsErr w v) :
    Calls Tryf.prog 17 #[.string { data := #[114, 101, 115, 111, 117, 114, 99, 101, 32, 37, 119] }, .slice (some ⟨b, 0, none⟩) 1 1] w fun e w' => Errs w w' e := by
  have hF' := answers_open hF
  obtain ⟨T, a, s, rfl, hT, hs⟩ := hv
  rcases hT with rfl | rfl
  · have hop := Tryf.opPlain32_119w "fmt.errorf" a s w hs
    go_enter Tryf.func17, Tryf.ntmps17
    go_wp2
    go_ret
    exact errs_new w 36 (.inr rfl) _ [_] 54
  · have hop := Tryf.opPlain36_119w "fmt.errorf" a s w hs
    go_enter Tryf.func17, Tryf.ntmps17
    go_wp2
    go_ret
    exact errs_new w 36 (.inr rfl) _ [_] 54

theorem errors_new (t : ByteArray) (w : World) : Calls Tryf.prog 16 #[.string t] w fun e w' => Errs w w' e := by
  go_enter Tryf.func16, Tryf.ntmps16
  go_wp2
  go_ret
  refine ⟨⟨_, rfl, 32, ⟨w.heap.size, 0, none⟩, t, rfl, .inl rfl, ?_⟩, (Below.refl _ _).alloc (Nat.le_refl _) _⟩
  rw [cell_of_row (w.alloc (.cells #[Value.string t] 34)) w.heap.size 0 _ 34 (0, 0) (heap_alloc_new w _)]
  rfl
end Go.Proofs.Qxb6621631aFmt
