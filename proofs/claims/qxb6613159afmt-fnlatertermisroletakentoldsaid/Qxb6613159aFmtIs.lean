/-
  errors.Is(e, x) BY ITS CONTRACT, e a *fmt.wrapError that wraps x itself, x of errors.New's make: one Unwrap, then equal. Go's own text of errors.Is and errors.is is walked.
-/
import Derived.Test.Qxb6613159aFmtFacts
namespace Go.Proofs.Qxb6613159aFmt
open Go.RowKit Go.Extern.Stop Go.Stop Go.Extern

theorem is_wrap_same (pb po : Nat) (b : Addr) (w : World) (h1 : w.cell? ⟨pb, po + 1, none⟩ = some (.iface 47 (.pointer (some b)))) :
    Calls Tryf.prog 6 #[.iface 46 (.pointer (some ⟨pb, po, none⟩)), .iface 47 (.pointer (some b))] w fun e w' => e = .returned (.bool true) ∧ w' = w := by
  obtain ⟨i, hi, hcmp⟩ := Option.map_eq_some_iff.1 isComp
  obtain ⟨j, hj, hjs⟩ := Option.map_eq_some_iff.1 isSize
  have h9 := @run_callFunc_extern Tryf.prog 9 _ Extern.ReflectliteType.typeOf Tryf.func9 (by kernel_rfl) (by kernel_rfl) (by kernel_rfl) (by kernel_rfl)
  have tT := isTypeOf
  have cT := isComparable
  have mR := isMethodComparable
  have nW := noIsW
  have uW := hasUnwrapW
  have mU := methodUnwrap
  have heq := run_eql_iface_ptr_same (P := Tryf.prog) w b Tryf.underlying24 Tryf.underlying47 hi hcmp hj
  have hty := run_eql_iface_types (P := Tryf.prog) 46 47 (.pointer (some ⟨pb, po, none⟩)) (.pointer (some b)) Tryf.underlying24 (by decide) w
  go_enter Tryf.func6, Tryf.ntmps6
  go_wp2
  refine wp_loop_rounds 2 ?_
  rw [rounds_succ]
  go_wp2
  rw [rounds_succ]
  go_wp2
  go_ret
  exact ⟨rfl, rfl⟩

end Go.Proofs.Qxb6613159aFmt
