/- THE CLOSED FACTS FOR A WALK OVER fmt's STOPPED FRONT IN THIS DUMP, after the guide's worked CheckFmt and GuardFmt, turned to these numbers. Each is proved by the kernel's own evaluation. -/
import Derived.Test.Qxb6621631aFmtRows
import Derived.Stop.CallBack
import Derived.Stop.IfaceNil
import GoSem.ClaimData
namespace Go.Proofs.Qxb6621631aFmt
open Go.Extern.Stop Go.Stop Go.Extern

theorem Tryf.call18 (args : Array Value) (w : World) : (callFunc 18 args).run Tryf.prog w = ((FmtStop.errorf #[9, 35] #[24] args).run Tryf.prog w).andThen fun v w' => .ok (.value v) w' :=
  run_callFunc_extern Tryf.func18 (by kernel_rfl) (by kernel_rfl) (by kernel_rfl) (by kernel_rfl) args w
theorem Tryf.guard (name : String) (w : World) : (FmtStop.guard name).run Tryf.prog w = .ok () w := by kernel_rfl
def Tryf.form0 : ByteArray := ⟨#[105, 115, 32, 37, 100, 32, 98, 121, 116, 101, 115, 32, 108, 111, 110, 103, 44, 32, 109, 111, 114, 101, 32, 116, 104, 97, 110, 32, 37, 100]⟩
theorem Tryf.fmt0r (w : World) : (FmtDoors.printed ⟨#[105, 115, 32, 37, 100, 32, 98, 121, 116, 101, 115, 32, 108, 111, 110, 103, 44, 32, 109, 111, 114, 101, 32, 116, 104, 97, 110, 32, 37, 100]⟩ 2).run Tryf.prog w = .ok [(0, 100, false), (1, 100, false)] w := by kernel_rfl
def Tryf.form1 : ByteArray := ⟨#[104, 97, 115, 32, 98, 121, 116, 101, 32, 37, 35, 48, 50, 120, 32, 97, 116, 32, 111, 102, 102, 115, 101, 116, 32, 37, 100, 44, 32, 119, 104, 105, 99, 104, 32, 105, 115, 32, 110, 111, 116, 32, 112, 114, 105, 110, 116, 97, 98, 108, 101, 32, 65, 83, 67, 73, 73, 32, 111, 116, 104, 101, 114, 32, 116, 104, 97, 110, 32, 116, 104, 101, 32, 115, 112, 97, 99, 101]⟩
theorem Tryf.fmt1r (w : World) : (FmtDoors.printed ⟨#[104, 97, 115, 32, 98, 121, 116, 101, 32, 37, 35, 48, 50, 120, 32, 97, 116, 32, 111, 102, 102, 115, 101, 116, 32, 37, 100, 44, 32, 119, 104, 105, 99, 104, 32, 105, 115, 32, 110, 111, 116, 32, 112, 114, 105, 110, 116, 97, 98, 108, 101, 32, 65, 83, 67, 73, 73, 32, 111, 116, 104, 101, 114, 32, 116, 104, 97, 110, 32, 116, 104, 101, 32, 115, 112, 97, 99, 101]⟩ 2).run Tryf.prog w = .ok [(0, 120, true), (1, 100, false)] w := by kernel_rfl
def Tryf.form2 : ByteArray := ⟨#[110, 97, 109, 101, 32, 37, 119]⟩
theorem Tryf.fmt2r (w : World) : (FmtDoors.printed ⟨#[110, 97, 109, 101, 32, 37, 119]⟩ 1).run Tryf.prog w = .ok [(0, 119, false)] w := by kernel_rfl
def Tryf.form3 : ByteArray := ⟨#[116, 97, 98, 108, 101, 32, 37, 119]⟩
theorem Tryf.fmt3r (w : World) : (FmtDoors.printed ⟨#[116, 97, 98, 108, 101, 32, 37, 119]⟩ 1).run Tryf.prog w = .ok [(0, 119, false)] w := by kernel_rfl
def Tryf.form4 : ByteArray := ⟨#[114, 101, 115, 111, 117, 114, 99, 101, 32, 37, 119]⟩
theorem Tryf.fmt4r (w : World) : (FmtDoors.printed ⟨#[114, 101, 115, 111, 117, 114, 99, 101, 32, 37, 119]⟩ 1).run Tryf.prog w = .ok [(0, 119, false)] w := by kernel_rfl

theorem Tryf.name3 : Tryf.prog.typeName? 3 3 = some "int" := by kernel_rfl
def Tryf.shape3 : List UInt8 := [5, 3, 0, 0, 0, 0, 0, 0, 0, 105, 110, 116]
theorem Tryf.op3_100w (name : String) (x : Int) (w : World) : (FmtStop.operand name true 100 false (.iface 3 (.int .i64 x))).run Tryf.prog w = .ok (Tryf.shape3, Go.Extern.Stop.digits 8 (x % 2 ^ 64).toNat) w := by kernel_rfl
def Tryf.shape5 : List UInt8 := [6, 5, 0, 0, 0, 0, 0, 0, 0, 117, 105, 110, 116, 56]
theorem Tryf.op5_120w (name : String) (x : Int) (w : World) : (FmtStop.operand name true 120 true (.iface 5 (.int .u8 x))).run Tryf.prog w = .ok (Tryf.shape5, Go.Extern.Stop.digits 8 (x % 2 ^ 64).toNat) w := by kernel_rfl

theorem Tryf.ptr32 (w : World) : (FmtStop.ptrTo "errors.errorString").run Tryf.prog w = .ok 32 w := by kernel_rfl
theorem Tryf.elem32 (w : World) : (elemOf 32).run Tryf.prog w = .ok 34 w := by kernel_rfl
theorem Tryf.isError32' (w : World) : (FmtDoors.textMethod 32 "Error").run Tryf.prog w = .ok true w := by kernel_rfl
def Tryf.plain32 : List UInt8 := [14, 19, 0, 0, 0, 0, 0, 0, 0, 42, 101, 114, 114, 111, 114, 115, 46, 101, 114, 114, 111, 114, 83, 116, 114, 105, 110, 103]
theorem Tryf.look32 (w : World) : (match (typeStr 32).run Tryf.prog w with | .ok nm w' => some (14 :: FmtStop.pack nm.toUTF8.data.toList, w') | _ => none) = some (Tryf.plain32, w) := by kernel_rfl
/-- The type has a name, and its bytes are these. -/
theorem Tryf.str32 (w : World) : ∃ nm : String, (typeStr 32).run Tryf.prog w = .ok nm w ∧ 14 :: FmtStop.pack nm.toUTF8.data.toList = Tryf.plain32 := by
  have h := Tryf.look32 w
  cases hr : (typeStr 32).run Tryf.prog w with
  | ok nm w' =>
    rw [hr] at h
    obtain ⟨h1, h2⟩ := Prod.mk.inj (Option.some.inj h)
    exact ⟨nm, by rw [h2], h1⟩
  | _ => rw [hr] at h; cases h
theorem Tryf.opPlain32_119w (name : String) (a : Addr) (s : ByteArray) (w : World) (hc : w.cell? a = some (.string s)) :
    (FmtStop.operand name true 119 false (.iface 32 (.pointer (some a)))).run Tryf.prog w = .ok (Tryf.plain32, s.data.toList) w := by
  obtain ⟨nm, h1, h0⟩ := Tryf.str32 w
  have d2 : Tryf.t32.desc = .pointer 34 := rfl
  have d3 : Tryf.t34.desc = .named "errors.errorString" 33 := rfl
  simp [FmtStop.operand, h1, d2, d3, run_load, hc, ← h0]
theorem Tryf.ptr36 (w : World) : (FmtStop.ptrTo "fmt.wrapError").run Tryf.prog w = .ok 36 w := by kernel_rfl
theorem Tryf.elem36 (w : World) : (elemOf 36).run Tryf.prog w = .ok 54 w := by kernel_rfl
theorem Tryf.isError36' (w : World) : (FmtDoors.textMethod 36 "Error").run Tryf.prog w = .ok true w := by kernel_rfl
def Tryf.plain36 : List UInt8 := [14, 14, 0, 0, 0, 0, 0, 0, 0, 42, 102, 109, 116, 46, 119, 114, 97, 112, 69, 114, 114, 111, 114]
theorem Tryf.look36 (w : World) : (match (typeStr 36).run Tryf.prog w with | .ok nm w' => some (14 :: FmtStop.pack nm.toUTF8.data.toList, w') | _ => none) = some (Tryf.plain36, w) := by kernel_rfl
/-- The type has a name, and its bytes are these. -/
theorem Tryf.str36 (w : World) : ∃ nm : String, (typeStr 36).run Tryf.prog w = .ok nm w ∧ 14 :: FmtStop.pack nm.toUTF8.data.toList = Tryf.plain36 := by
  have h := Tryf.look36 w
  cases hr : (typeStr 36).run Tryf.prog w with
  | ok nm w' =>
    rw [hr] at h
    obtain ⟨h1, h2⟩ := Prod.mk.inj (Option.some.inj h)
    exact ⟨nm, by rw [h2], h1⟩
  | _ => rw [hr] at h; cases h
theorem Tryf.opPlain36_119w (name : String) (a : Addr) (s : ByteArray) (w : World) (hc : w.cell? a = some (.string s)) :
    (FmtStop.operand name true 119 false (.iface 36 (.pointer (some a)))).run Tryf.prog w = .ok (Tryf.plain36, s.data.toList) w := by
  obtain ⟨nm, h1, h0⟩ := Tryf.str36 w
  have d2 : Tryf.t36.desc = .pointer 54 := rfl
  have d3 : Tryf.t54.desc = .named "fmt.wrapError" 53 := rfl
  simp [FmtStop.operand, h1, d2, d3, run_load, hc, ← h0]
end Go.Proofs.Qxb6621631aFmt
