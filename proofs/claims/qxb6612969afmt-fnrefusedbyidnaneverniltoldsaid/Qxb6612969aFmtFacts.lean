/-
  The closed facts for the walk over fmt's stopped front 'errorf' (function 10), at this seat's translation. Nothing here is trusted: the kernel checks each.
-/
import Derived.Test.Qxb6612969aFmtRows
import Derived.WalkKit
import Derived.WalkSpells
import Derived.Stop.CallBack
import Derived.Stop.IfaceNil
namespace Go.Proofs.Qxb6612969aFmt
open Go.Extern.Stop Go.Stop Go.Extern

theorem call10 (args : Array Value) (w : World) : (callFunc 10 args).run Tryf.prog w = ((FmtStop.errorf #[9, 32] #[24] args).run Tryf.prog w).andThen fun v w' => .ok (.value v) w' :=
  run_callFunc_extern Tryf.func10 (by kernel_rfl) (by kernel_rfl) (by kernel_rfl) (by kernel_rfl) args w

theorem guardOk (name : String) (w : World) : (FmtStop.guard name).run Tryf.prog w = .ok () w := by kernel_rfl

theorem fmt0 : FmtStop.printed? ⟨#[73, 68, 78, 65, 50, 48, 48, 56, 32, 100, 111, 101, 115, 32, 110, 111, 116, 32, 97, 108, 108, 111, 119, 32, 40, 37, 118, 41]⟩ 1 = some [(0, 118, false)] := by kernel_rfl
theorem fmt0r (w : World) : (FmtDoors.printed ⟨#[73, 68, 78, 65, 50, 48, 48, 56, 32, 100, 111, 101, 115, 32, 110, 111, 116, 32, 97, 108, 108, 111, 119, 32, 40, 37, 118, 41]⟩ 1).run Tryf.prog w = .ok [(0, 118, false)] w := by kernel_rfl

theorem ptr29 (w : World) : (FmtStop.ptrTo "errors.errorString").run Tryf.prog w = .ok 29 w := by kernel_rfl
theorem elem29 (w : World) : (elemOf 29).run Tryf.prog w = .ok 31 w := by kernel_rfl
theorem isError29 (w : World) : (FmtDoors.textMethod 29 "Error").run Tryf.prog w = .ok true w := by kernel_rfl
theorem ptr33 (w : World) : (FmtStop.ptrTo "fmt.wrapError").run Tryf.prog w = .ok 33 w := by kernel_rfl
theorem elem33 (w : World) : (elemOf 33).run Tryf.prog w = .ok 51 w := by kernel_rfl

theorem opNil (name : String) (w : World) : (FmtStop.operand name true 118 false .nilIface).run Tryf.prog w = .ok ([0], []) w := by kernel_rfl

/-- An error of errors.New's make as an operand of '%v': it reads as its type's name and its text, out of memory. -/
theorem opPlain29 : ∃ sh : List UInt8, ∀ (name : String) (a : Addr) (s : ByteArray) (w : World), w.cell? a = some (.string s) →
    (FmtStop.operand name true 118 false (.iface 29 (.pointer (some a)))).run Tryf.prog w = .ok (sh, s.data.toList) w := by
  obtain ⟨str, hstr⟩ : ∃ str : String, ∀ w : World, (typeStr 29).run Tryf.prog w = .ok str w := ⟨Tryf.t29.str, fun w => by kernel_rfl⟩
  refine ⟨14 :: FmtStop.pack str.toUTF8.data.toList, fun name a s w hc => ?_⟩
  have d2 : Tryf.t29.desc = .pointer 31 := rfl
  have d3 : Tryf.t31.desc = .named "errors.errorString" 30 := rfl
  simp [FmtStop.operand, hstr, d2, d3, run_load, hc]

end Go.Proofs.Qxb6612969aFmt
