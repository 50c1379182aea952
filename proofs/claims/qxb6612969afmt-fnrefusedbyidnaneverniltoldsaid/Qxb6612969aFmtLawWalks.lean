/-
  THE WALKS: FnRefusedByIDNANeverNil (function 3) returns true, for every F that stands in fmt.errorf's place.
-/
import Derived.Test.Qxb6612969aFmtFacts
namespace Go.Proofs.Qxb6612969aFmt
open Go.RowKit Go.Extern.Stop Go.Stop Go.Extern
attribute [local go_sem] call10 guardOk fmt0 fmt0r ptr29 elem29 isError29 opNil

set_option maxHeartbeats 400000 in
theorem bytes_no (b : Bool) (s : ByteArray) (w : World) (hs : s.size ≤ maxLen) (h : 1048576 < s.size) :
    Calls Tryf.prog 4 #[.bool b, .string s] w fun e w' => e = .returned (.bool false) ∧ w' = w := by
  unfold maxLen at hs
  go_enter Tryf.func4, Tryf.ntmps4
  go_wp2
  go_ret
  exact ⟨rfl, rfl⟩

set_option maxHeartbeats 400000 in
theorem bytes_yes (b : Bool) (s : ByteArray) (w : World) (h : s.size ≤ 1048576) :
    Calls Tryf.prog 4 #[.bool b, .string s] w fun e w' => e = .returned (.bool true) ∧ w' = w := by
  go_enter Tryf.func4, Tryf.ntmps4
  go_wp2
  go_ret
  exact ⟨rfl, rfl⟩

set_option maxHeartbeats 400000 in
/-- refusedByIDNA(nil): a new error of fmt.Errorf's make. -/
theorem refused_nil (F : Interp) (w : World) (hF : F.answers w.tape) :
    Calls Tryf.prog 7 #[.nilIface] w fun e w' => (∃ a, e = .returned (.iface 29 (.pointer (some a)))) ∧ Below w.heap.size w w' := by
  have hF' := answers_open hF
  go_enter Tryf.func7, Tryf.ntmps7
  go_wp2
  go_ret
  exact ⟨⟨_, rfl⟩, (((Below.refl _ w).alloc (Nat.le_refl _) _).alloc (by simp) _).drew⟩

set_option maxHeartbeats 400000 in
/-- refusedByIDNA(err), err an error of errors.New's make at a. -/
theorem refused_some (F : Interp) (a : Addr) (s : ByteArray) (w : World) (hF : F.answers w.tape) (hc : w.cell? a = some (.string s)) :
    Calls Tryf.prog 7 #[.iface 29 (.pointer (some a))] w fun e w' => (∃ a, e = .returned (.iface 29 (.pointer (some a)))) ∧ Below w.heap.size w w' := by
  have hF' := answers_open hF
  obtain ⟨sh, hsh⟩ := opPlain29
  have hop := fun (o : Obj) => hsh "fmt.errorf" a s (w.alloc o) (cell_later ((Below.refl _ w).alloc (Nat.le_refl _) o) hc)
  clear hsh
  go_enter Tryf.func7, Tryf.ntmps7
  go_wp2
  go_ret
  exact ⟨⟨_, rfl⟩, (((Below.refl _ w).alloc (Nat.le_refl _) _).alloc (by simp) _).drew⟩

set_option maxHeartbeats 400000 in
/-- ZZrefusedByIDNAOfText(msg): refusedByIDNA of a new error. -/
theorem of_text (F : Interp) (s : ByteArray) (w : World) (hF : F.answers w.tape) :
    Calls Tryf.prog 5 #[.string s] w fun e w' => (∃ a, e = .returned (.iface 29 (.pointer (some a)))) ∧ Below w.heap.size w w' := by
  go_enter Tryf.func5, Tryf.ntmps5
  go_wp2_with fail
  go_enter Tryf.func8, Tryf.ntmps8
  go_wp2_with fail
  refine (refused_some F _ s _ (by exact hF) (by simp)).mono ?_
  rintro e w' ⟨⟨a, rfl⟩, hb⟩
  go_wp2_with fail
  go_ret
  exact ⟨⟨_, rfl⟩, ((Below.refl _ w).alloc (Nat.le_refl _) _).trans (hb.mono (by simp))⟩

set_option maxHeartbeats 400000 in
/-- ZZrefusedByIDNAOfNil(). -/
theorem of_nil (F : Interp) (w : World) (hF : F.answers w.tape) :
    Calls Tryf.prog 6 #[] w fun e w' => (∃ a, e = .returned (.iface 29 (.pointer (some a)))) ∧ Below w.heap.size w w' := by
  go_enter Tryf.func6, Tryf.ntmps6
  go_wp2_with (go_at_call 7; refine (refused_nil F _ ?_).mono ?_; exact hF; rintro e w' ⟨⟨a, rfl⟩, hb⟩)
  go_ret
  exact ⟨⟨_, rfl⟩, hb⟩

set_option maxHeartbeats 400000 in
/-- The law's function where a cause is given. -/
theorem law_text (F : Interp) (s : ByteArray) (w : World) (hF : F.answers w.tape) (h : s.size ≤ 1048576) :
    Calls Tryf.prog 3 #[.bool true, .string s] w fun e w' => e = .returned (.bool true) ∧ Below w.heap.size w w' := by
  go_enter Tryf.func3, Tryf.ntmps3
  go_wp2_with fail
  refine (bytes_yes _ _ _ h).mono ?_
  rintro e w' ⟨rfl, rfl⟩
  go_wp2_with fail
  refine (of_text F _ _ hF).mono ?_
  rintro e w' ⟨⟨a, rfl⟩, hb⟩
  go_wp2_with fail
  go_ret
  exact ⟨rfl, hb⟩

set_option maxHeartbeats 400000 in
/-- The law's function where no cause is given. -/
theorem law_nil (F : Interp) (s : ByteArray) (w : World) (hF : F.answers w.tape) (h : s.size ≤ 1048576) :
    Calls Tryf.prog 3 #[.bool false, .string s] w fun e w' => e = .returned (.bool true) ∧ Below w.heap.size w w' := by
  go_enter Tryf.func3, Tryf.ntmps3
  go_wp2_with fail
  refine (bytes_yes _ _ _ h).mono ?_
  rintro e w' ⟨rfl, rfl⟩
  go_wp2_with fail
  refine (of_nil F _ hF).mono ?_
  rintro e w' ⟨⟨a, rfl⟩, hb⟩
  go_wp2_with fail
  go_ret
  exact ⟨rfl, hb⟩

set_option maxHeartbeats 400000 in
/-- The law's function at a text beyond the bound. -/
theorem law_long (b : Bool) (s : ByteArray) (w : World) (hs : s.size ≤ maxLen) (h : 1048576 < s.size) :
    Calls Tryf.prog 3 #[.bool b, .string s] w fun e w' => e = .returned (.bool true) ∧ Below w.heap.size w w' := by
  go_enter Tryf.func3, Tryf.ntmps3
  go_wp2_with fail
  refine (bytes_no _ _ _ hs h).mono ?_
  rintro e w' ⟨rfl, rfl⟩
  go_wp2_with fail
  go_ret
  exact ⟨rfl, Below.refl _ _⟩

/-- THE WALK: whatever the input and whatever stands in fmt.errorf's place: true, and at most new blocks. -/
theorem law_any (F : Interp) (b : Bool) (s : ByteArray) (w : World) (hF : F.answers w.tape) (hs : s.size ≤ maxLen) :
    Calls Tryf.prog 3 #[.bool b, .string s] w fun e w' => e = .returned (.bool true) ∧ Below w.heap.size w w' := by
  by_cases h : s.size ≤ 1048576
  · cases b
    · exact law_nil F s w hF h
    · exact law_text F s w hF h
  · exact law_long b s w hs (by omega)

end Go.Proofs.Qxb6612969aFmt
