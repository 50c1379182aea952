/-
  THE TIED CARD OF FnIsRequestTable, PROVED: out of the walks (Qxb6609468aDoorLawWalks.lean) and the given tie (Qxb6609468aDoorTie.lean) by the builder 'Claim7.holds_tied_plain_at'. The listed map is opened; the witness starts in the heap that the door's own run leaves.
-/
import Derived.Test.Qxb6609468aDoorCards
import Derived.Test.Qxb6609468aDoorTie
import Derived.Test.Qxb6609468aDoorLawWalks
import Derived.ProofKit
import Derived.LaidMore
import Derived.OpenShut
import Derived.ChangeVars
import Derived.ChangeAlike
import Derived.WalkSmall
import Derived.Stop.Joined
import Derived.SevenTiedAt
namespace Go.Proofs.Qxb6609468aDoor
open Go.ChangeShapes Go.WideShapes Go.ChangeAt Go.WideMaps Go.WideElems Go.RowKit

theorem own : ownKnob Tryd.prog.godebug = none := by kernel_rfl
theorem laidOut : laidOutB Tryd.prog = true := by kernel_rfl
/-- The variable's name, as the given row has it. -/
abbrev varName : String := Rows.fnIsRequestTableSpec.vars.headD ""
theorem gMap : Tryd.prog.globalNamed varName = some 0 := by kernel_rfl
theorem tMap : (Tryd.prog.globals[0]?).map (·.type) = some 26 := by kernel_rfl

/-! ### THE PLAIN LAW: which numbers stand among the elements of a map as it is read -/
/-- Does one of the entries hold this number? -/
def anyVal {H : Type} (want : Int) : List (Lit × DataW H) → Bool
  | [] => false
  | (_, .lit (.int _ n)) :: r => n == want || anyVal want r
  | _ :: r => anyVal want r

theorem anyVal_cons {H : Type} (want : Int) (x : Lit × DataW H) (r : List (Lit × DataW H)) : anyVal want (x :: r) = (anyVal want [x] || anyVal want r) := by
  obtain ⟨k, d⟩ := x
  cases d with
  | lit li => cases li <;> first | rfl | simp [anyVal]
  | _ => first | rfl | simp [anyVal]

theorem anyVal_insert {H : Type} (want : Int) (x : Lit × DataW H) : ∀ l : List (Lit × DataW H), anyVal want (DataW.insert x l) = (anyVal want [x] || anyVal want l)
  | [] => by simp [DataW.insert, anyVal]
  | y :: r => by
    unfold DataW.insert
    split
    · rw [anyVal_cons want x (y :: r)]
    · rw [anyVal_cons want y, anyVal_insert want x r, anyVal_cons want y r]
      cases anyVal want [y] <;> cases anyVal want [x] <;> rfl

theorem anyVal_sorted {H : Type} (want : Int) : ∀ l : List (Lit × DataW H), anyVal want (l.foldr DataW.insert []) = l.any fun x => anyVal want [x]
  | [] => rfl
  | x :: l => by rw [List.foldr_cons, anyVal_insert, anyVal_sorted want l]; rfl

/-- The door's own heap meets the condition: three closed facts. -/
theorem door_met (os : Os) (args : Array Value) : laidMetH Tryd.prog Rows.fnIsRequestTableRow.laid ((World.doorLaid Tryd.prog 64 os).forCall (fun _ _ => 0) ⟨#[], args, []⟩).memory :=
  laidMetH_of_parts3 (fuel := 8) (laidMet_of_run' 8 (by kernel_rfl) (by kernel_rfl)) (by kernel_rfl) (by kernel_rfl)

/-- WHAT THE CONDITION GIVES THE WALKS. -/
theorem of_laid {W : World} (h : laidMetH Tryd.prog Rows.fnIsRequestTableRow.laid W) : ∃ (bm : Nat) (es : Array MapEntry) (clock : Nat), W.cell? ⟨0, 0, none⟩ = some (.map (some bm)) ∧ W.heap[bm]? = some (.map es clock) ∧ MapKept.Stamped es clock ∧
    (∀ x ∈ es.toList, ∃ v, x.val = .int .u8 v) ∧ ∀ t : Int, (es.toList.any fun x => valOf x.val == t) = (2 == t || (4 == t || (6 == t || (9 == t || (11 == t || (14 == t || (14 == t || (17 == t || (17 == t || (19 == t || false)))))))))) := by
  rw [MakeChecks.laidMetH_plain _ _ _ (by kernel_rfl)] at h
  obtain ⟨ps, ⟨g0, t0, cs0, f0, p0, q0, hg0, ht0, hv0, hd0, _, _⟩, _, _⟩ := h
  obtain rfl := Option.some.inj (gMap.symm.trans hg0)
  obtain rfl := Option.some.inj (tMap.symm.trans ht0)
  rcases open_map Tryd.underlying26 hd0 with ⟨_, hx⟩ | ⟨bm, es, clock, m, rfl, hcs, hb, _, F, hx⟩
  · simp [Rows.laid_example_com_shiftring_shiftring_internal_wire_replyTo] at hx
  simp only [Prod.mk.injEq] at hx
  have hcell : W.cell? ⟨0, 0, none⟩ = some (.map (some bm)) := by
    have := World.var?_cell hg0 hv0 0
    rw [Array.eq_one_of_toList hcs] at this
    simpa using this
  have hval : ∀ x ∈ es.toList, ∃ v, x.val = .int .u8 v ∧ rg Tryd.prog 23 (elemAt (fun _ => ()) Tryd.prog W 0 (fun _ => true) false m 23) x = ((rg Tryd.prog 23 (elemAt (fun _ => ()) Tryd.prog W 0 (fun _ => true) false m 23) x).1, .lit (.int .u8 v)) := fun x hx => by
    obtain ⟨y, hy⟩ := F.reads x hx
    obtain ⟨z, hz, hd⟩ := rd_val hy
    obtain ⟨a, ha, rfl, _⟩ := elemAt_int Tryd.underlying23 hz
    exact ⟨a, ha, by rw [rg_of hy]; exact Prod.ext rfl hd⟩
  refine ⟨bm, es, clock, hcell, hb, F.stamped, fun x hx => by obtain ⟨v, h, _⟩ := hval x hx; exact ⟨v, h⟩, fun t => ?_⟩
  have htot : anyVal t ((es.toList.map (rg Tryd.prog 23 (elemAt (fun _ => ()) Tryd.prog W 0 (fun _ => true) false m 23))).foldr DataW.insert []) = es.toList.any fun x => valOf x.val == t := by
    rw [anyVal_sorted]
    generalize es.toList = l at hval
    induction l with
    | nil => rfl
    | cons x l ih =>
      obtain ⟨v, h1, h2⟩ := hval x (List.mem_cons.2 (Or.inl rfl))
      simp only [List.map_cons, List.any_cons]
      rw [h2, h1, ← ih (fun y hy => hval y (List.mem_cons.2 (Or.inr hy)))]
      simp [anyVal, valOf]
  rw [← htot]
  have hlist := hx.1
  unfold Rows.laid_example_com_shiftring_shiftring_internal_wire_replyTo at hlist
  rw [DataW.map.injEq] at hlist
  rw [← hlist]
  rfl

set_option maxRecDepth 100000 in
theorem lifted (os : Os) (started : os.Started) (H : Type) (enc : TypeId × Value → H) :
    ReturnsInHanded {} Tryd.checked os 3 .any (fun w args => (Rows.fnIsRequestTableSpec.pre enc Tryd.prog Tryd.f3 [] false w args ∧ laidMetH Tryd.prog Rows.fnIsRequestTableRow.laid w) ∧ sizedMet enc Tryd.prog Tryd.f3 (OpenSpec.ofChange Rows.fnIsRequestTableSpec) false w args)
      (Rows.fnIsRequestTableSpec.post enc Tryd.prog Tryd.f3 false true false false) := by
  refine returnsInHanded_of_change_and (C := Tryd.checked) (X := fun w _ => laidMetH Tryd.prog Rows.fnIsRequestTableRow.laid w) (fun _ _ _ hh h => h.of_heap hh) own started (by kernel_rfl) Tryd.func3
    (ChangeSpec.witness_shaped (enc := enc) (C := Tryd.checked) (os := os) (X := fun w _ => laidMetH Tryd.prog Rows.fnIsRequestTableRow.laid w) false (World.doorLaid Tryd.prog 64 os) #[.int .u8 0] 8 rfl (World.shaped_of_RefB (by kernel_rfl) (by kernel_rfl)) (by kernel_rfl) (by kernel_rfl) (by kernel_rfl) (door_met os _)) ?_
  intro W base args ds gs before hval0 hW _ _ hL _
  have hval : ∀ (j : Nat) t v, Tryd.f3.params[j]? = some t → args[j]? = some v → Value.okWide Tryd.prog W .any base t v := hval0
  have hW' := hW
  obtain ⟨p, q, hA0, hV0, rfl, _, _⟩ := hW
  have hA : DataW.TrodAll enc Tryd.prog W 0 (fun _ => true) true Tryd.f3.params.toList args.toList ds p := hA0
  have hV : DataW.TrodVars enc Tryd.prog W (fun _ => true) [varName] gs q := hV0
  rw [Tryd.params3] at hA hval
  obtain ⟨v0, d0, rfl, rfl, h0⟩ := trodAll_one hA
  obtain ⟨g, ty, cs, fuel, d, p', rfl, hg, ht, hvar, hd, rfl⟩ := trodVars_one hV
  obtain rfl := Option.some.inj (gMap.symm.trans hg)
  obtain rfl := Option.some.inj (tMap.symm.trans ht)
  obtain ⟨t, rfl, rfl, rfl, wt⟩ := open_int Tryd.underlying5 (hval 0 5 v0 rfl rfl) h0
  obtain ⟨bm, es, clock, hcell, hb, hst, hvs, hany⟩ := of_laid hL
  clear hA0 hV0 hval0 hA hV
  have hlt : 0 < W.heap.size := World.block_lt_of_cell? _ _ hcell
  have hltv : ∀ x ∈ p', x.block < W.heap.size := fun x hx => hW'.lt x (List.mem_append_right _ (List.mem_append_right _ hx))
  have hcs : cs = #[.map (some bm)] := by
    rcases open_map Tryd.underlying26 hd with ⟨hcs, _⟩ | ⟨bm', es', clock', m', _, hcs, _⟩
    · have := World.var?_cell hg hvar 0
      rw [Array.eq_one_of_toList hcs] at this
      rw [show W.cell? ⟨0, 0, none⟩ = some (.map none) by simpa using this] at hcell
      cases hcell
    · have := World.var?_cell hg hvar 0
      rw [Array.eq_one_of_toList hcs] at this
      rw [show W.cell? ⟨0, 0, none⟩ = some (.map (some bm')) by simpa using this] at hcell
      cases hcell
      exact Array.eq_one_of_toList hcs
  subst hcs
  have fin : ∀ (e : Ending) (W' : World), (e = .returned (.bool true) ∧ ∃ (w1 : World) (seen : Array Nat), w1.Alike W ∧ W' = w1.alloc (.mapIter (some bm) clock seen clock)) → ∃ v, e = .returned v ∧ Rows.fnIsRequestTableSpec.post enc Tryd.prog Tryd.f3 false true false false W #[.int .u8 t] v W' := by
    rintro e W' ⟨rfl, w1, seen, hal, rfl⟩
    have hal' : (w1.alloc (.mapIter (some bm) clock seen clock)).Alike (W.alloc (.mapIter (some bm) clock seen clock)) := ⟨by show w1.heap.push _ = W.heap.push _; rw [hal.1], hal.2.1, hal.2.2⟩
    refine ⟨_, rfl, ChangeSpec.post_alike ?_ hal'⟩
    have hB : Below W.heap.size W (W.alloc (.mapIter (some bm) clock seen clock)) := (Below.refl _ W).alloc (Nat.le_refl _) _
    obtain ⟨fuel', hd'⟩ := Below.trod laidOut (by kernel_rfl) (of_decide_eq_true (by kernel_rfl)) (v := .map (some bm)) (⟨fuel, by simpa [Value.cells] using hd⟩ : DataW.Trod enc Tryd.prog W 0 (fun _ => true) true 26 (.map (some bm)) d p') hB hltv
    have hv' := trodVars_mk1 (enc := enc) (spare := fun b => decide (b < W.heap.size)) hg ht (var?_below hB hg hlt hvar) (by simpa [Value.cells] using hd')
    refine ⟨_, _, _, [], [], (MemPlace.row ⟨0, 0, none⟩ (#[.map (some bm)] : Array Value).size ++ p'), hW', ?_, ?_, ?_, hB.frame _, fun h => by cases h⟩
    · exact trodAll_mk1 (shut_bool Tryd.underlying4 _)
    · exact trodAll_mk1 (shut_int Tryd.underlying5 wt)
    · exact hv'
  by_cases hyes : t = 2 ∨ t = 4 ∨ t = 6 ∨ t = 9 ∨ t = 11 ∨ t = 14 ∨ t = 17 ∨ t = 19 ∨ t = 20
  · refine (law_yes bm es clock t W hcell hb hst hvs ?_ hyes).mono fin
    rw [hany t]
    rcases hyes with rfl | rfl | rfl | rfl | rfl | rfl | rfl | rfl | rfl <;> rfl
  · have h1 : ¬ t = 2 ∧ ¬ t = 4 ∧ ¬ t = 6 ∧ ¬ t = 9 ∧ ¬ t = 11 ∧ ¬ t = 14 ∧ ¬ t = 17 ∧ ¬ t = 19 ∧ ¬ t = 20 := by omega
    obtain ⟨h1, h2, h3, h4, h5, h6, h7, h8, h9⟩ := h1
    refine (law_no bm es clock t W hcell hb hst hvs ?_ h1 h2 h3 h4 h5 h6 h7 h8 h9).mono fin
    rw [hany t]
    simp only [Bool.or_eq_false_iff, beq_eq_false_iff_ne, ne_eq]
    refine ⟨⟨?_, ?_, ?_, ?_, ?_, ?_, ?_, ?_, ?_, ?_, trivial⟩, ?_⟩ <;> omega

/-- The row. -/
theorem row_holds : Rows.FnIsRequestTableSaid :=
  OpenClaim.holds_of_wide 3 Tryd.f3 rfl rfl rfl rfl rfl rfl rfl ⟨rfl, rfl, rfl, rfl, rfl⟩ rfl rfl rfl rfl rfl (by kernel_rfl) Tryd.func3 (by kernel_rfl)
    (of_decide_eq_true (by kernel_rfl)) (by unfold Func.isWrapper; first | (rw [if_pos (by decide +kernel)]; kernel_rfl) | (rw [if_neg (by decide +kernel)]; exact ⟨rfl, rfl⟩))
    (fun os started H enc _ => lifted os started H enc)

theorem three : Tryd.prog.funcNamed Rows.fnIsRequestTableRow.func = some 3 := by kernel_rfl

/-- THE STATEMENT. -/
theorem fnIsRequestTable_card : Rows.FnIsRequestTableCardSaid :=
  Claim7.holds_tied_plain_at .later [] [.mapped] true _ false
    row_holds (fun _ h => by cases h) (by kernel_rfl) (fun _ h => by cases h) fnIsRequestTable_row_tie rfl ⟨rfl, rfl⟩ (by kernel_rfl) rfl
    (fun f fn hf hfn => by
      obtain rfl : f = 3 := (Option.some.inj (three.symm.trans hf)).symm
      obtain rfl : fn = Tryd.f3 := (Option.some.inj (Tryd.func3.symm.trans hfn)).symm
      exact ⟨by kernel_rfl, fun j t ht => by
        rw [Tryd.params3] at ht
        have hm : t ∈ [5] := by simpa using Array.mem_of_getElem? ht
        have hall : ([5].all fun u => !Tryd.prog.wantsStandIn u) = true := by kernel_rfl
        exact (show Tryd.prog.wantsStandIn t = false by simpa using List.all_eq_true.1 hall t hm)⟩)
    (by kernel_rfl)

end Go.Proofs.Qxb6609468aDoor
