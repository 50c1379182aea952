/-
  The closed facts for the walks of this seat: fmt's stopped front 'errorf' (function 12), and what errors.Is meets at an error of errors.New's make and at a *fmt.wrapError. Nothing here is trusted: the kernel checks each.
-/
import Derived.Test.Qxb6613159aFmtRows
import Derived.WalkKit
import Derived.WalkSpells
import Derived.LaidEql
import Derived.Stop.CallBack
import Derived.Stop.IfaceNil
import Derived.Stop.Asserts
import Derived.RowKitTokens
namespace Go.Proofs.Qxb6613159aFmt
open Go.Extern.Stop Go.Stop Go.Extern

/-! ### fmt.errorf -/
theorem call12 (args : Array Value) (w : World) : (callFunc 12 args).run Tryf.prog w = ((FmtStop.errorf #[9, 44] #[24] args).run Tryf.prog w).andThen fun v w' => .ok (.value v) w' :=
  run_callFunc_extern Tryf.func12 (by kernel_rfl) (by kernel_rfl) (by kernel_rfl) (by kernel_rfl) args w

theorem guardOk (name : String) (w : World) : (FmtStop.guard name).run Tryf.prog w = .ok () w := by kernel_rfl

theorem fmt0 : FmtStop.printed? ⟨#[37, 115, 58, 32, 116, 101, 114, 109, 32, 37, 100, 58, 32, 37, 119]⟩ 3 = some [(0, 115, false), (1, 100, false), (2, 119, false)] := by kernel_rfl
theorem fmt0r (w : World) : (FmtDoors.printed ⟨#[37, 115, 58, 32, 116, 101, 114, 109, 32, 37, 100, 58, 32, 37, 119]⟩ 3).run Tryf.prog w = .ok [(0, 115, false), (1, 100, false), (2, 119, false)] w := by kernel_rfl

def shape9 : List UInt8 := [12, 6, 0, 0, 0, 0, 0, 0, 0, 115, 116, 114, 105, 110, 103]
theorem op9 (name : String) (x : ByteArray) (w : World) : (FmtStop.operand name true 115 false (.iface 9 (.string x))).run Tryf.prog w = .ok (shape9, FmtStop.pack x.data.toList) w := by kernel_rfl
def shape2 : List UInt8 := [5, 5, 0, 0, 0, 0, 0, 0, 0, 105, 110, 116, 54, 52]
theorem op2 (name : String) (x : Int) (w : World) : (FmtStop.operand name true 100 false (.iface 2 (.int .i64 x))).run Tryf.prog w = .ok (shape2, Go.Extern.Stop.digits 8 (x % 2 ^ 64).toNat) w := by kernel_rfl

theorem ptr47 (w : World) : (FmtStop.ptrTo "errors.errorString").run Tryf.prog w = .ok 47 w := by kernel_rfl
theorem elem47 (w : World) : (elemOf 47).run Tryf.prog w = .ok 49 w := by kernel_rfl
theorem isError47 (w : World) : (FmtDoors.textMethod 47 "Error").run Tryf.prog w = .ok true w := by kernel_rfl
theorem ptr46 (w : World) : (FmtStop.ptrTo "fmt.wrapError").run Tryf.prog w = .ok 46 w := by kernel_rfl
theorem elem46 (w : World) : (elemOf 46).run Tryf.prog w = .ok 76 w := by kernel_rfl
theorem isError46 (w : World) : (FmtDoors.textMethod 46 "Error").run Tryf.prog w = .ok true w := by kernel_rfl

/-- An error of errors.New's make as an operand of '%w': it reads as its type's name and its text, out of memory. -/
theorem opPlain47 : ∃ sh : List UInt8, ∀ (name : String) (a : Addr) (s : ByteArray) (w : World), w.cell? a = some (.string s) →
    (FmtStop.operand name true 119 false (.iface 47 (.pointer (some a)))).run Tryf.prog w = .ok (sh, s.data.toList) w := by
  obtain ⟨str, hstr⟩ : ∃ str : String, ∀ w : World, (typeStr 47).run Tryf.prog w = .ok str w := ⟨Tryf.t47.str, fun w => by kernel_rfl⟩
  refine ⟨14 :: FmtStop.pack str.toUTF8.data.toList, fun name a s w hc => ?_⟩
  have d2 : Tryf.t47.desc = .pointer 49 := rfl
  have d3 : Tryf.t49.desc = .named "errors.errorString" 48 := rfl
  simp [FmtStop.operand, hstr, d2, d3, run_load, hc]

/-! ### errors.Is: 'reflectlite.TypeOf(target).Comparable()' at such a target; the method sets that its assertions look at -/
theorem isTypeOf (v : Value) (w : World) : (Extern.ReflectliteType.typeOf #[.iface 47 v]).run Tryf.prog w = .ok (.iface 35 (.agg #[.pointer (some ⟨1, 47, none⟩)])) w := by kernel_rfl
theorem isComparable (w : World) : (callFunc 32 #[.agg #[.pointer (some ⟨1, 47, none⟩)]]).run Tryf.prog w = .ok (.value (.bool true)) w := by
  rw [@run_callFunc_extern Tryf.prog 32 _ (Extern.ReflectliteType.method fun t => do Extern.Rtype.noPackHeld "Comparable" t; pure (.bool (← typeInfo t).comparable)) Tryf.func32 (by kernel_rfl) (by kernel_rfl) (by kernel_rfl) (by kernel_rfl)]
  kernel_rfl
theorem isMethodComparable (v : Value) (w : World) : (Go.method 189 35 v "Comparable").run Tryf.prog w = .ok (32, v) w := by kernel_rfl
theorem isComp : (Tryf.prog.info? 47).map (·.comparable) = some true := by kernel_rfl
theorem isSize : (Tryf.prog.info? 49).map (·.size) = some 1 := by kernel_rfl
theorem noIsW (v : Value) (xT : TypeId) (w : World) : (Instr.typeAssert (.iface 46 v) xT 37 true).run Tryf.prog w = .ok (.tuple #[.nilIface, .bool false]) w := run_typeAssert_lacksB Tryf.underlying37 (by kernel_rfl) (by kernel_rfl) v xT w
theorem hasUnwrapW (v : Value) (xT : TypeId) (w : World) : (Instr.typeAssert (.iface 46 v) xT 40 true).run Tryf.prog w = .ok (.tuple #[.iface 46 v, .bool true]) w := run_typeAssert_hasB Tryf.underlying40 (by kernel_rfl) v xT w
theorem methodUnwrap (v : Value) (w : World) : (Go.method 189 46 v "Unwrap").run Tryf.prog w = .ok (42, v) w := by kernel_rfl

end Go.Proofs.Qxb6613159aFmt
