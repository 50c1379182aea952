/-
  THE WALKS of FnIsRequestTable and its callees: IsReply ranges over the map replyTo, in whatever order the tape says, and may leave early.
-/
import Derived.Test.Qxb6609468aDoorRows
import Derived.WalkKit
import Derived.Laws.IdiomRangeMap
namespace Go.Proofs.Qxb6609468aDoor
open Go.RowKit

theorem hide {p : Prop} (h : p) : Hid p := h

set_option maxRecDepth 1000000 in
set_option maxHeartbeats 400000 in
/-- IsReply: does one of the map's elements equal the type, or is it 20? -/
theorem reply_any (bm : Nat) (es : Array MapEntry) (clock : Nat) (t : Int) (w : World) (hg : w.cell? ⟨0, 0, none⟩ = some (.map (some bm))) (hb : w.heap[bm]? = some (.map es clock)) (hst : MapKept.Stamped es clock) (hv : ∀ x ∈ es.toList, ∃ v, x.val = .int .u8 v) :
    Calls Tryd.prog 6 #[.int .u8 t] w fun e w' => e = .returned (.bool ((es.toList.any fun x => valOf x.val == t) || t == 20)) ∧ ∃ (w1 : World) (seen : Array Nat), w1.Alike w ∧ w' = w1.alloc (.mapIter (some bm) clock seen clock) := by
  have hrg := run_range_map (P := Tryd.prog) w 26 23 23 bm es clock Tryd.underlying26 hb
  go_enter Tryd.func6, Tryd.ntmps6
  go_wp2
  go_loopw [] (fun w' => ∃ (w1 : World) (seen : Array Nat), w1.Alike w ∧ w' = w1.alloc (.mapIter (some bm) clock seen clock) ∧ ∀ x ∈ es.toList, seen.contains x.born = true → ¬ valOf x.val = t) (fun w' => (leftOf es (w'.iterSeen w.heap.size)).size)
  case atStart => exact ⟨w, #[], ⟨rfl, rfl, rfl⟩, rfl, fun x _ h => by simp at h⟩
  case round =>
    obtain ⟨w1, seen, hal, rfl, hno⟩ := hrel
    have hsz : w1.heap.size = w.heap.size := by rw [hal.1]
    have hb1 : w1.heap[bm]? = some (.map es clock) := by rw [hal.1]; exact hb
    have law := run_next_map (P := Tryd.prog) w1 0 bm clock clock seen es clock hb1 hst.1 (Nat.le_refl _)
    rw [hsz] at law
    rcases law with ⟨h0, hrun⟩ | ⟨e, he, w2, hal2, hrun⟩
    · have hnx : ∀ ty, (Instr.next (.pointer (some ⟨w.heap.size, 0, none⟩)) false ty).run Tryd.prog (w1.alloc (.mapIter (some bm) clock seen clock)) = _ := fun _ => hrun
      go_wp2
      go_ret
      have hf : (es.toList.any fun x => valOf x.val == t) = false := by
        rw [List.any_eq_false]
        intro x hx
        have := hno x hx (all_seen es seen h0 x hx)
        simpa using this
      rw [hf]
      exact ⟨rfl, w1, seen, hal, rfl⟩
    · obtain ⟨v, hval⟩ := hv e (mem_left he).1
      rw [hval] at hrun
      have hnx : ∀ ty, (Instr.next (.pointer (some ⟨w.heap.size, 0, none⟩)) false ty).run Tryd.prog (w1.alloc (.mapIter (some bm) clock seen clock)) = _ := fun _ => hrun
      have hsz2 : w2.heap.size = w.heap.size := by rw [hal2.1, hal.1]
      have hb2 : w2.heap[bm]? = some (.map es clock) := by rw [hal2.1]; exact hb1
      have hen := run_entry_map (P := Tryd.prog) w2 bm clock seen es clock e hb2 (mem_left he).1 hst.2.1
      rw [hsz2, hval] at hen
      have hal3 : w2.Alike w := ⟨hal2.1.trans hal.1, hal2.2.1.trans hal.2.1, hal2.2.2.trans hal.2.2⟩
      go_wp2
      · rename_i heq
        go_ret
        have htv : t = v := by simpa using heq
        have ht : (es.toList.any fun x => valOf x.val == t) = true := List.any_eq_true.2 ⟨e, (mem_left he).1, by rw [hval, htv]; simp [valOf]⟩
        rw [ht]
        exact ⟨rfl, w2, _, hal3, rfl⟩
      · rename_i hne
        have htv : ¬ t = v := by simpa using hne
        go_roundw
        case rel =>
          refine ⟨w2, seen.push e.born, hal3, rfl, fun x hx hc => ?_⟩
          rw [contains_push] at hc
          rcases Bool.or_eq_true _ _ ▸ hc with h1 | h1
          · exact hno x hx h1
          · have : x = e := born_inj hst.2.1 hx (mem_left he).1 (beq_iff_eq.1 h1)
            subst this
            rw [hval]
            exact fun h => htv (h.symm)
        case measure =>
          rw [← hsz2, World.iterSeen_alloc, hsz2, ← hsz, World.iterSeen_alloc]
          exact left_shrinks es seen e he

set_option maxHeartbeats 400000 in
/-- isRequest. -/
theorem request_any (bm : Nat) (es : Array MapEntry) (clock : Nat) (t : Int) (r : Bool) (w : World) (hg : w.cell? ⟨0, 0, none⟩ = some (.map (some bm))) (hb : w.heap[bm]? = some (.map es clock)) (hst : MapKept.Stamped es clock) (hv : ∀ x ∈ es.toList, ∃ v, x.val = .int .u8 v)
    (hr : ((es.toList.any fun x => valOf x.val == t) || t == 20) = r) :
    Calls Tryd.prog 5 #[.int .u8 t] w fun e w' => e = .returned (.bool (!r)) ∧ ∃ (w1 : World) (seen : Array Nat), w1.Alike w ∧ w' = w1.alloc (.mapIter (some bm) clock seen clock) := by
  have hR := reply_any bm es clock t w hg hb hst hv
  rw [hr] at hR
  have HR := hide hR
  clear hR hr hg hb hst hv
  go_enter Tryd.func5, Tryd.ntmps5
  go_wp2_with fail
  refine HR.out.mono ?_
  rintro e w' ⟨rfl, hw⟩
  go_wp2_with fail
  go_ret
  exact ⟨rfl, hw⟩

set_option maxHeartbeats 400000 in
/-- ZZisRequest. -/
theorem zz_any (bm : Nat) (es : Array MapEntry) (clock : Nat) (t : Int) (r : Bool) (w : World) (hg : w.cell? ⟨0, 0, none⟩ = some (.map (some bm))) (hb : w.heap[bm]? = some (.map es clock)) (hst : MapKept.Stamped es clock) (hv : ∀ x ∈ es.toList, ∃ v, x.val = .int .u8 v)
    (hr : ((es.toList.any fun x => valOf x.val == t) || t == 20) = r) :
    Calls Tryd.prog 4 #[.int .u8 t] w fun e w' => e = .returned (.bool (!r)) ∧ ∃ (w1 : World) (seen : Array Nat), w1.Alike w ∧ w' = w1.alloc (.mapIter (some bm) clock seen clock) := by
  have HR := hide (request_any bm es clock t r w hg hb hst hv hr)
  clear hr hg hb hst hv
  go_enter Tryd.func4, Tryd.ntmps4
  go_wp2_with fail
  refine HR.out.mono ?_
  rintro e w' ⟨rfl, hw⟩
  go_wp2_with fail
  go_ret
  exact ⟨rfl, hw⟩

set_option maxHeartbeats 400000 in
/-- The law at a reply's type. -/
theorem law_yes (bm : Nat) (es : Array MapEntry) (clock : Nat) (t : Int) (w : World) (hg : w.cell? ⟨0, 0, none⟩ = some (.map (some bm))) (hb : w.heap[bm]? = some (.map es clock)) (hst : MapKept.Stamped es clock) (hv : ∀ x ∈ es.toList, ∃ v, x.val = .int .u8 v)
    (hr : ((es.toList.any fun x => valOf x.val == t) || t == 20) = true) (ht : t = 2 ∨ t = 4 ∨ t = 6 ∨ t = 9 ∨ t = 11 ∨ t = 14 ∨ t = 17 ∨ t = 19 ∨ t = 20) :
    Calls Tryd.prog 3 #[.int .u8 t] w fun e w' => e = .returned (.bool true) ∧ ∃ (w1 : World) (seen : Array Nat), w1.Alike w ∧ w' = w1.alloc (.mapIter (some bm) clock seen clock) := by
  have HR := hide (zz_any bm es clock t true w hg hb hst hv hr)
  clear hr hg hb hst hv
  rcases ht with rfl | rfl | rfl | rfl | rfl | rfl | rfl | rfl | rfl
  all_goals
    go_enter Tryd.func3, Tryd.ntmps3
    go_wp2_with fail
    refine HR.out.mono ?_
    rintro e w' ⟨rfl, hw⟩
    go_wp2_with fail
    go_ret
    exact ⟨rfl, hw⟩

set_option maxHeartbeats 400000 in
/-- The law at any other type. -/
theorem law_no (bm : Nat) (es : Array MapEntry) (clock : Nat) (t : Int) (w : World) (hg : w.cell? ⟨0, 0, none⟩ = some (.map (some bm))) (hb : w.heap[bm]? = some (.map es clock)) (hst : MapKept.Stamped es clock) (hv : ∀ x ∈ es.toList, ∃ v, x.val = .int .u8 v)
    (hr : ((es.toList.any fun x => valOf x.val == t) || t == 20) = false) (h1 : ¬ t = 2) (h2 : ¬ t = 4) (h3 : ¬ t = 6) (h4 : ¬ t = 9) (h5 : ¬ t = 11) (h6 : ¬ t = 14) (h7 : ¬ t = 17) (h8 : ¬ t = 19) (h9 : ¬ t = 20) :
    Calls Tryd.prog 3 #[.int .u8 t] w fun e w' => e = .returned (.bool true) ∧ ∃ (w1 : World) (seen : Array Nat), w1.Alike w ∧ w' = w1.alloc (.mapIter (some bm) clock seen clock) := by
  have HR := hide (zz_any bm es clock t false w hg hb hst hv hr)
  clear hr hg hb hst hv
  go_enter Tryd.func3, Tryd.ntmps3
  go_wp2_with fail
  refine HR.out.mono ?_
  rintro e w' ⟨rfl, hw⟩
  go_wp2_with fail
  go_ret
  exact ⟨rfl, hw⟩

end Go.Proofs.Qxb6609468aDoor
