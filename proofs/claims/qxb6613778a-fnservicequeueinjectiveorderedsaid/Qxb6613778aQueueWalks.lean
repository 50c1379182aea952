/-
  THE WALKS of FnServiceQueueInjectiveOrdered's callees.
-/
import Derived.Test.Qxb6613778aRows
import Derived.WalkKit
import Derived.ProofKit
namespace Go.Proofs.Qxb6613778a
open Go.RowKit

/-- The queue's name: the documented start (18 bytes), then the service's name. -/
def queueOf (a : ByteArray) : ByteArray := ⟨#[114, 97, 118, 101, 110, 112, 111, 115, 116, 46, 115, 101, 114, 118, 105, 99, 101, 46]⟩ ++ a

set_option maxHeartbeats 400000 in
theorem bytes_no (a b : ByteArray) (w : World) (ha : a.size ≤ maxLen) (hb : b.size ≤ maxLen) (h : 1048576 < a.size + b.size) :
    Calls Try.prog 5 #[.string a, .string b] w fun e w' => e = .returned (.bool false) ∧ w' = w := by
  unfold maxLen at ha hb
  by_cases h1 : 1048576 < a.size
  · go_enter Try.func5, Try.ntmps5
    go_wp2
    go_ret
    exact ⟨rfl, rfl⟩
  · by_cases h2 : 1048576 < b.size
    · go_enter Try.func5, Try.ntmps5
      go_wp2
      go_ret
      exact ⟨rfl, rfl⟩
    · go_enter Try.func5, Try.ntmps5
      go_wp2
      go_ret
      exact ⟨rfl, rfl⟩

set_option maxHeartbeats 400000 in
theorem bytes_yes (a b : ByteArray) (w : World) (h : a.size + b.size ≤ 1048576) :
    Calls Try.prog 5 #[.string a, .string b] w fun e w' => e = .returned (.bool true) ∧ w' = w := by
  have h1 : a.size ≤ 1048576 := by omega
  have h2 : b.size ≤ 1048576 := by omega
  go_enter Try.func5, Try.ntmps5
  go_wp2
  go_ret
  exact ⟨rfl, rfl⟩

set_option maxHeartbeats 400000 in
theorem queue_any (a : ByteArray) (w : World) (h : a.size ≤ 1048576) :
    Calls Try.prog 6 #[.string a] w fun e w' => e = .returned (.string (queueOf a)) ∧ w' = w := by
  go_enter Try.func6, Try.ntmps6
  go_wp2
  go_ret
  exact ⟨rfl, rfl⟩

set_option maxHeartbeats 400000 in
theorem drops_any (q a : ByteArray) (w : World) (h : 18 ≤ q.size) (hq : q.size ≤ 2000000)
    (h1 : (q.extract 0 18).toList = [114, 97, 118, 101, 110, 112, 111, 115, 116, 46, 115, 101, 114, 118, 105, 99, 101, 46]) (h2 : (q.extract 18 q.size).toList = a.toList) :
    Calls Try.prog 7 #[.string q, .string a] w fun e w' => e = .returned (.bool true) ∧ w' = w := by
  have h3 : ((q.extract 18 q.size).toList == a.toList) = true := by rw [h2]; exact beq_self_eq_true _
  clear h2
  go_enter Try.func7, Try.ntmps7
  go_wp2
  go_ret
  exact ⟨rfl, rfl⟩

/-! ### the plain laws of the queue's name -/
theorem queue_list (a : ByteArray) : (queueOf a).toList = [114, 97, 118, 101, 110, 112, 111, 115, 116, 46, 115, 101, 114, 118, 105, 99, 101, 46] ++ a.toList := by
  unfold queueOf
  simp [ByteArray.toList_eq, ByteArray.data_append]

theorem queue_size (a : ByteArray) : (queueOf a).size = 18 + a.size := by
  unfold queueOf
  simp [ByteArray.size_append]
  rfl

theorem extract_list (q : ByteArray) (i j : Nat) : (q.extract i j).toList = (q.toList.take j).drop i := by
  simp [ByteArray.toList_eq, ByteArray.data_extract, List.drop_take]

theorem queue_head (a : ByteArray) : ((queueOf a).extract 0 18).toList = [114, 97, 118, 101, 110, 112, 111, 115, 116, 46, 115, 101, 114, 118, 105, 99, 101, 46] := by
  rw [extract_list, queue_list]
  rfl

theorem queue_tail (a : ByteArray) : ((queueOf a).extract 18 (queueOf a).size).toList = a.toList := by
  have hl : (queueOf a).toList.length = (queueOf a).size := by rw [ByteArray.toList_eq]; exact Array.length_toList
  rw [extract_list, ← hl, List.take_length, queue_list]
  rfl

theorem queue_eql (a b : ByteArray) : ((queueOf a).toList == (queueOf b).toList) = (a.toList == b.toList) := by
  rw [queue_list, queue_list, Bool.eq_iff_iff]
  simp

theorem queue_less (a b : ByteArray) : Op.bytesLess (queueOf a).toList (queueOf b).toList = Op.bytesLess a.toList b.toList := by
  rw [queue_list, queue_list]
  simp [Op.bytesLess]

theorem queue_drops (a : ByteArray) (w : World) (h : a.size ≤ 1048576) :
    Calls Try.prog 7 #[.string (queueOf a), .string a] w fun e w' => e = .returned (.bool true) ∧ w' = w :=
  drops_any (queueOf a) a w (by rw [queue_size]; omega) (by rw [queue_size]; omega) (queue_head a) (queue_tail a)

end Go.Proofs.Qxb6613778a
