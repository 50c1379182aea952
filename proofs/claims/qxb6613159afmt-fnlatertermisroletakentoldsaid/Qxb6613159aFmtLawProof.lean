/-
  THE TOLD AND TIED CARD OF FnLaterTermIsRoleTaken, PROVED: out of the walk (Qxb6613159aFmtLawWalks.lean) and the given tie (Qxb6613159aFmtTie.lean) by the builder 'Claim7.holds_of_told_tied_any_at'.
-/
import Derived.Test.Qxb6613159aFmtCards
import Derived.Test.Qxb6613159aFmtTie
import Derived.Test.Qxb6613159aFmtLawWalks
import Derived.ProofKit
import Derived.OpenShut
import Derived.ShutString
import Derived.JoinedOf
import Derived.Stop.JoinedAt
import Derived.Stop.Texts
import Derived.Stop.JoinedTold
import Derived.Stop.LaidErr
import Derived.SevenTiedAt
import Derived.WalkSmall
namespace Go.Proofs.Qxb6613159aFmt
open Go.ChangeShapes Go.WideShapes Go.ChangeAt Go.RowKit Go.Kit
open Go.ChangeMaps (open_string shut_string)
open Go.Extern.Stop Go.Stop Go.Extern

theorem own : ownKnob Tryf.prog.godebug = none := by kernel_rfl
theorem laidOut : laidOutB Tryf.pinned.checked.prog = true := by kernel_rfl
theorem stopsIs : Tryf.pinned.checked.prog.stops = ["fmt.errorf"] := by kernel_rfl
theorem stopKnobsIs : Tryf.pinned.checked.prog.stopKnobs = [] := by kernel_rfl
theorem quietIs (os : Os) : Stop.quiet Tryf.pinned.checked.prog os := by
  intro k hk
  rw [stopKnobsIs] at hk
  cases hk

/-- The variable's name, as the given row has it. -/
abbrev varName : String := Rows.fnLaterTermIsRoleTakenSpec.vars.headD ""
/-- The name of the sentinel's dynamic type, as the given datum has it. -/
abbrev ptrName : String := match (Rows.laid_example_com_syncline_syncline_errRoleTaken : DataW Unit) with
  | .iface nm _ => nm
  | _ => ""
theorem gE : Tryf.prog.globalNamed varName = some 0 := by kernel_rfl
theorem gEType : (Tryf.prog.globals[0]?).map (·.type) = some 24 := by kernel_rfl
theorem cells49 : Tryf.prog.cellsOf 49 = 1 := by kernel_rfl
theorem cells9 : Tryf.prog.cellsOf 9 = 1 := by kernel_rfl
theorem row47 (u : TypeId) (h : Tryf.prog.typeName? 3 u = some ptrName) : u = 47 :=
  typeName_ptr_named (nm := "errors.errorString") (by kernel_rfl) (by kernel_rfl) (by decide) u (h.trans (by kernel_rfl))

/-! ### One start that fits: the sentinel as its initialiser lays it -/
def lowOf (P : Program) : Nat := (World.holding P default ⟨#[], #[], []⟩).heap.size
def takenS : ByteArray := ⟨#[97, 110, 111, 116, 104, 101, 114, 32, 97, 103, 101, 110, 116, 32, 104, 97, 115, 32, 99, 108, 97, 105, 109, 101, 100, 32, 97, 32, 108, 97, 116, 101, 114, 32, 116, 101, 114, 109, 32, 111, 102, 32, 116, 104, 101, 32, 114, 111, 108, 101]⟩
/-- The settled world with one block more, an errors.errorString; the variable holds a pointer to it. -/
def laidWorld (P : Program) (os : Os) : World :=
  let w0 := World.holding P os ⟨#[.cells #[.string takenS] 49], #[], []⟩
  { w0 with heap := w0.heap.modify 0 fun
      | .cells _ t frozen => .cells #[.iface 47 (.pointer (some ⟨lowOf P, 0, none⟩))] t frozen
      | o => o }
theorem laid_met (os : Os) (args : Array Value) : laidMet Tryf.prog Rows.fnLaterTermIsRoleTakenRow.laid ((laidWorld Tryf.prog os).forCall (fun _ _ => 0) ⟨#[], args, []⟩).memory :=
  laidMet_of_run (ps := [.cell 0 0, .cell (lowOf Tryf.prog) 0]) 8 (by kernel_rfl) (by kernel_rfl) (by kernel_rfl)

set_option maxRecDepth 100000 in
theorem lifted (os : Os) (started : os.Started) (H : Type) (enc : TypeId × Value → H) :
    ReturnsInTold none {} Tryf.checked os 3 .any Input.okWide ((OpenSpec.ofChange Rows.fnLaterTermIsRoleTakenSpec).preRow enc Tryf.prog Tryf.f3 [] false Rows.fnLaterTermIsRoleTakenRow.laid) (fun F => ((OpenSpec.ofChange Rows.fnLaterTermIsRoleTakenSpec).at F).post enc Tryf.prog Tryf.f3 false true false false) (aloneAtReturn Tryf.prog) nothingAlways := by
  refine returnsInTold_of_row (C := Tryf.checked) (s := OpenSpec.ofChange Rows.fnLaterTermIsRoleTakenSpec) (by kernel_rfl) own started (by kernel_rfl) Tryf.func3
    (OpenSpec.witness_stopped_at (enc := enc) (C := Tryf.checked) false (laidWorld Tryf.prog os) #[.string ByteArray.empty, .int .i64 0] rfl (by kernel_rfl) (by kernel_rfl) (by kernel_rfl)
      (OpenSpec.preRow_of_B rfl 8 (by kernel_rfl) (by kernel_rfl) (laid_met os _))) ?_
  intro F W base args ds gs before _ hF hval0 hW _ _ _ hL _
  have hval : ∀ (j : Nat) t v, Tryf.f3.params[j]? = some t → args[j]? = some v → Value.okWide Tryf.prog W .any base t v := hval0
  have hW' := hW
  obtain ⟨p, q, hA0, hV0, rfl, _, _⟩ := hW
  have hA : DataW.TrodAll enc Tryf.prog W 0 (fun _ => true) true Tryf.f3.params.toList args.toList ds p := hA0
  have hV : DataW.TrodVars enc Tryf.prog W (fun _ => true) [varName] gs q := hV0
  rw [Tryf.params3] at hA hval
  obtain ⟨v0, v1, d0, d1, p0, p1, rfl, rfl, rfl, h0, h1⟩ := trodAll_two hA
  obtain ⟨s, rfl, rfl, rfl, ws⟩ := open_string Tryf.underlying9 (hval 0 9 v0 rfl rfl) h0
  obtain ⟨n, rfl, rfl, rfl, wn⟩ := open_int Tryf.underlying2 (hval 1 2 v1 rfl rfl) h1
  obtain ⟨a, t, hv, hc, ht, hz⟩ := laid_sentinel hL gE gEType Tryf.underlying24 row47 Tryf.underlying47 Tryf.underlying49 rfl rfl Tryf.underlying9 cells49 cells9
  obtain ⟨rfl, rfl⟩ := hV.unique (vars_read1 enc gE gEType Tryf.underlying24 hv trivial _)
  clear hA0 hV0 hval0
  have hg : W.cell? ⟨0, 0, none⟩ = some (.iface 47 (.pointer (some a))) := by simpa using World.var?_cell gE hv 0
  have hlt : 0 < W.heap.size := World.block_lt_of_cell? _ _ hg
  refine (law_any F.told s n a t W hF hg hc ws).mono fun e W' ⟨he, hb⟩ => ?_
  subst he
  refine ⟨_, rfl, _, _, _, [], [], [.cell 0 0], hW', ?_, ?_, ?_, hb.frame _, fun h => by cases h⟩
  · exact trodAll_mk1 (shut_bool Tryf.underlying4 _)
  · exact trodAll_mk2 (shut_string Tryf.underlying9 ws) (shut_int Tryf.underlying2 wn)
  · exact vars_read1 enc gE gEType Tryf.underlying24 (var?_below hb gE hlt hv) trivial _

/-- THE STATEMENT. -/
theorem fnLaterTermIsRoleTaken_told : Rows.FnLaterTermIsRoleTakenToldSaid :=
  Claim7.holds_of_told_tied_any_at .later 3 Tryf.f3 "fmt.errorf" [] [] _ _ _ _ _ (by kernel_rfl) rfl rfl rfl laidOut (by kernel_rfl) rfl ⟨rfl, rfl, rfl, rfl, rfl, rfl, rfl⟩ rfl rfl (by kernel_rfl) (by kernel_rfl) Tryf.func3 (by kernel_rfl)
    (of_decide_eq_true (by kernel_rfl)) (of_decide_eq_true (by kernel_rfl)) stopsIs.symm rfl stopKnobsIs.symm (by kernel_rfl)
    (by kernel_rfl) (by kernel_rfl) (by kernel_rfl) (by kernel_rfl) (by kernel_rfl) (by kernel_rfl) (by kernel_rfl) (by kernel_rfl) (by kernel_rfl) rfl (by kernel_rfl) rfl rfl
    rfl rfl
    rfl (by kernel_rfl) (by kernel_rfl) (by kernel_rfl) (by decide) (by kernel_rfl) fnLaterTermIsRoleTaken_row_tie
    (OpenClaim.moreEntering_of (by kernel_rfl) (by kernel_rfl) (by kernel_rfl) (by kernel_rfl) (by kernel_rfl) (by kernel_rfl) (by kernel_rfl) (by kernel_rfl) (by kernel_rfl) (by kernel_rfl))
    ⟨_, WideRow.started_initial, quietIs _⟩
    (fun os started _ H enc _ => lifted os started H enc)

end Go.Proofs.Qxb6613159aFmt
