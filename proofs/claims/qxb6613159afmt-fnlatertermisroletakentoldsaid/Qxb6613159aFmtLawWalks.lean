/-
  THE WALKS: FnLaterTermIsRoleTaken (function 3) returns true, for every F that stands in fmt.errorf's place, where the variable errRoleTaken holds an error of errors.New's make.
-/
import Derived.Test.Qxb6613159aFmtIs
namespace Go.Proofs.Qxb6613159aFmt
open Go.RowKit Go.Extern.Stop Go.Stop Go.Extern
attribute [local go_sem] call12 guardOk fmt0 fmt0r op9 op2 ptr47 elem47 isError47 ptr46 elem46 isError46

set_option maxHeartbeats 400000 in
theorem bytes_no (s : ByteArray) (n : Int) (w : World) (hs : s.size ≤ maxLen) (h : 1048576 < s.size) :
    Calls Tryf.prog 4 #[.string s, .int .i64 n] w fun e w' => e = .returned (.bool false) ∧ w' = w := by
  unfold maxLen at hs
  go_enter Tryf.func4, Tryf.ntmps4
  go_wp2
  go_ret
  exact ⟨rfl, rfl⟩

set_option maxHeartbeats 400000 in
theorem bytes_yes (s : ByteArray) (n : Int) (w : World) (h : s.size ≤ 1048576) :
    Calls Tryf.prog 4 #[.string s, .int .i64 n] w fun e w' => e = .returned (.bool true) ∧ w' = w := by
  go_enter Tryf.func4, Tryf.ntmps4
  go_wp2
  go_ret
  exact ⟨rfl, rfl⟩

set_option maxHeartbeats 400000 in
/-- laterTerm(path, term): a new *fmt.wrapError that wraps what errRoleTaken holds. -/
theorem later_term (F : Interp) (p : ByteArray) (n : Int) (a : Addr) (s : ByteArray) (w : World) (hF : F.answers w.tape)
    (hg : w.cell? ⟨0, 0, none⟩ = some (.iface 47 (.pointer (some a)))) (hc : w.cell? a = some (.string s)) :
    Calls Tryf.prog 8 #[.string p, .int .i64 n] w fun e w' => ∃ pb, e = .returned (.iface 46 (.pointer (some ⟨pb, 0, none⟩))) ∧ w'.cell? ⟨pb, 0 + 1, none⟩ = some (.iface 47 (.pointer (some a))) ∧ Below w.heap.size w w' := by
  have hF' := answers_open hF
  obtain ⟨sh, hsh⟩ := opPlain47
  have hop := fun (o : Obj) => hsh "fmt.errorf" a s (w.alloc o) (cell_later ((Below.refl _ w).alloc (Nat.le_refl _) o) hc)
  clear hsh
  go_enter Tryf.func8, Tryf.ntmps8
  go_wp2
  go_ret
  exact ⟨_, rfl, by simp, (((Below.refl _ w).alloc (Nat.le_refl _) _).alloc (by simp) _).drew⟩

set_option maxHeartbeats 400000 in
/-- ZZlaterTerm. -/
theorem zz_later_term (F : Interp) (p : ByteArray) (n : Int) (a : Addr) (s : ByteArray) (w : World) (hF : F.answers w.tape)
    (hg : w.cell? ⟨0, 0, none⟩ = some (.iface 47 (.pointer (some a)))) (hc : w.cell? a = some (.string s)) :
    Calls Tryf.prog 5 #[.string p, .int .i64 n] w fun e w' => ∃ pb, e = .returned (.iface 46 (.pointer (some ⟨pb, 0, none⟩))) ∧ w'.cell? ⟨pb, 0 + 1, none⟩ = some (.iface 47 (.pointer (some a))) ∧ Below w.heap.size w w' := by
  go_enter Tryf.func5, Tryf.ntmps5
  go_wp2_with fail
  refine (later_term F p n a s _ hF hg hc).mono ?_
  rintro e w' ⟨pb, rfl, h1, hb⟩
  go_wp2_with fail
  go_ret
  exact ⟨pb, rfl, h1, hb⟩

set_option maxHeartbeats 400000 in
/-- ZZerrRoleTaken: what the variable holds. -/
theorem zz_err (a : Addr) (w : World) (hg : w.cell? ⟨0, 0, none⟩ = some (.iface 47 (.pointer (some a)))) :
    Calls Tryf.prog 7 #[] w fun e w' => e = .returned (.iface 47 (.pointer (some a))) ∧ w' = w := by
  go_enter Tryf.func7, Tryf.ntmps7
  go_wp2
  go_ret
  exact ⟨rfl, rfl⟩

set_option maxHeartbeats 400000 in
theorem law_short (F : Interp) (p : ByteArray) (n : Int) (a : Addr) (s : ByteArray) (w : World) (hF : F.answers w.tape)
    (hg : w.cell? ⟨0, 0, none⟩ = some (.iface 47 (.pointer (some a)))) (hc : w.cell? a = some (.string s)) (h : p.size ≤ 1048576) :
    Calls Tryf.prog 3 #[.string p, .int .i64 n] w fun e w' => e = .returned (.bool true) ∧ Below w.heap.size w w' := by
  have hz := World.block_lt_of_cell? _ _ hg
  go_enter Tryf.func3, Tryf.ntmps3
  go_wp2_with fail
  refine (bytes_yes _ _ _ h).mono ?_
  rintro e w' ⟨rfl, rfl⟩
  go_wp2_with fail
  refine (zz_later_term F p n a s _ hF hg hc).mono ?_
  rintro e w1 ⟨pb, rfl, h1, hb⟩
  have hg1 : w1.cell? ⟨0, 0, none⟩ = some (.iface 47 (.pointer (some a))) := (hb.cell (p := ⟨0, 0, none⟩) hz).trans hg
  go_wp2_with fail
  refine (zz_err a _ hg1).mono ?_
  rintro e w2 ⟨rfl, rfl⟩
  go_wp2_with fail
  refine (is_wrap_same pb 0 a _ h1).mono ?_
  rintro e w3 ⟨rfl, rfl⟩
  go_wp2_with fail
  go_ret
  exact ⟨rfl, hb⟩

set_option maxHeartbeats 400000 in
theorem law_long (p : ByteArray) (n : Int) (w : World) (hs : p.size ≤ maxLen) (h : 1048576 < p.size) :
    Calls Tryf.prog 3 #[.string p, .int .i64 n] w fun e w' => e = .returned (.bool true) ∧ Below w.heap.size w w' := by
  go_enter Tryf.func3, Tryf.ntmps3
  go_wp2_with fail
  refine (bytes_no _ _ _ hs h).mono ?_
  rintro e w' ⟨rfl, rfl⟩
  go_wp2_with fail
  go_ret
  exact ⟨rfl, Below.refl _ _⟩

/-- THE WALK. -/
theorem law_any (F : Interp) (p : ByteArray) (n : Int) (a : Addr) (s : ByteArray) (w : World) (hF : F.answers w.tape)
    (hg : w.cell? ⟨0, 0, none⟩ = some (.iface 47 (.pointer (some a)))) (hc : w.cell? a = some (.string s)) (hs : p.size ≤ maxLen) :
    Calls Tryf.prog 3 #[.string p, .int .i64 n] w fun e w' => e = .returned (.bool true) ∧ Below w.heap.size w w' := by
  by_cases h : p.size ≤ 1048576
  · exact law_short F p n a s w hF hg hc h
  · exact law_long p n w hs (by omega)

end Go.Proofs.Qxb6613159aFmt
