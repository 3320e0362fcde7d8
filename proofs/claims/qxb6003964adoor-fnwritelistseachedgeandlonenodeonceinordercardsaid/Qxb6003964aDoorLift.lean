/-
  The row's statement; the tied card.
-/
import Derived.Test.Qxb6003964aDoorView
import Derived.Test.Qxb6003964aDoorTie
import Derived.Test.Qxb6003964aDoorCards
import Derived.SevenTiedAt
namespace Go.Proofs.Qxb6003964aDoor
open Go.ChangeShapes Go.WideShapes Go.ChangeAt Go.RowKit

set_option maxRecDepth 100000 in
theorem lifted (os : Os) (started : os.Started) (H : Type) (enc : TypeId × Value → H) :
    ReturnsInHanded {} Tryd.checked os 3 .any (fun w args => (Rows.fnWriteListsEachEdgeAndLoneNodeOnceInOrderSpec.pre enc Tryd.prog Tryd.f3 [] false w args ∧ laidMetH Tryd.prog laid4 w) ∧ sizedMet enc Tryd.prog Tryd.f3 (OpenSpec.ofChange Rows.fnWriteListsEachEdgeAndLoneNodeOnceInOrderSpec) false w args)
      (Rows.fnWriteListsEachEdgeAndLoneNodeOnceInOrderSpec.post enc Tryd.prog Tryd.f3 false true false false) := by
  refine returnsInHanded_of_change_and (C := Tryd.checked) (X := fun w _ => laidMetH Tryd.prog laid4 w) (fun _ _ _ hh h => h.of_heap hh) Tryd.own started (by kernel_rfl) Tryd.func3
    (ChangeSpec.witness_shaped (enc := enc) (C := Tryd.checked) (os := os) (X := fun w _ => laidMetH Tryd.prog laid4 w) false (World.doorLaid Tryd.prog 43 os) #[.slice none 0 0, .slice none 0 0, .bool false] 8 rfl (World.shaped_of_RefB (by kernel_rfl) (by kernel_rfl)) (by kernel_rfl) (by kernel_rfl) (by kernel_rfl) (door_met os _)) ?_
  intro W base args ds gs before hval0 hW _ _ hL _
  have hval : ∀ (j : Nat) t v, Tryd.f3.params[j]? = some t → args[j]? = some v → Value.okWide Tryd.prog W .any base t v := hval0
  have hW' := hW
  obtain ⟨p, q, hA0, hV, rfl, hfz, hnd⟩ := hW
  have hA : DataW.TrodAll enc Tryd.prog W 0 (fun _ => true) true Tryd.f3.params.toList args.toList ds p := hA0
  rw [Tryd.params3] at hA hval
  obtain ⟨v0, vs0, d0, ds0, p0, q0, hargs, rfl, rfl, h0, r0⟩ := trodAll_cons hA
  obtain ⟨v1, vs1, d1, ds1, p1, q1, rfl, rfl, rfl, h1, r1⟩ := trodAll_cons r0
  obtain ⟨v2, vs2, d2, ds2, p2, q2, rfl, rfl, rfl, h2, r2⟩ := trodAll_cons r1
  obtain ⟨rfl, rfl, rfl⟩ := trodAll_nil r2
  obtain rfl : args = #[v0, v1, v2] := by cases args; simp_all
  obtain ⟨rfl, rfl⟩ := trodVars_none hV
  obtain ⟨ao, la, ca, Z, rfl, hids, hZ⟩ := view_nums Tryd.underlying22 Tryd.underlying2 Tryd.cells2 (hval 0 22 v0 rfl rfl) h0
  obtain ⟨bo, lb, cb, E, rfl, hends, hE⟩ := view_nums Tryd.underlying23 Tryd.underlying5 Tryd.cells5 (hval 1 23 v1 rfl rfl) h1
  obtain ⟨fail, rfl, rfl, rfl⟩ := open_bool Tryd.underlying4 (hval 2 4 v2 rfl rfl) h2
  clear hA0 hval0
  refine (law_any hids (fun j hj => bounds_i64 (hZ j hj)) hends (fun j hj => bounds_u8 (hE j hj)) (of_laid hL)).mono fun e W' ⟨he, hb⟩ => ?_
  subst he
  exact ⟨_, rfl, law_post Tryd.laidOut (by rw [Tryd.params3]; decide +kernel) rfl rfl Tryd.underlying4 rfl hW' hb⟩

set_option maxRecDepth 100000 in
theorem row_holds : Rows.FnWriteListsEachEdgeAndLoneNodeOnceInOrderSaid :=
  OpenClaim.holds_of_wide 3 Tryd.f3 rfl rfl rfl rfl rfl rfl rfl ⟨rfl, rfl, rfl, rfl, rfl⟩ rfl rfl rfl rfl rfl (by kernel_rfl) Tryd.func3 (by kernel_rfl)
    (of_decide_eq_true (by kernel_rfl)) (by unfold Func.isWrapper; first | (rw [if_pos (by decide +kernel)]; kernel_rfl) | (rw [if_neg (by decide +kernel)]; exact ⟨rfl, rfl⟩))
    (fun os started H enc _ => lifted os started H enc)

set_option maxRecDepth 100000 in
/-- THE STATEMENT: the tied card. -/
theorem fnWriteListsEachEdgeAndLoneNodeOnceInOrderCard_proved : Rows.FnWriteListsEachEdgeAndLoneNodeOnceInOrderCardSaid :=
  Claim7.holds_tied_plain_at .later [] [.data, .data, .data, .sentinel] true (true, "49558fedc1c2cc635e9b462fd5d7dfb71773c14f0b8978decd07aea57b5b423a") true
    row_holds (fun _ h => by cases h) (by kernel_rfl) (fun _ h => by cases h) fnWriteListsEachEdgeAndLoneNodeOnceInOrder_row_tie rfl ⟨rfl, rfl⟩ (by kernel_rfl) rfl
    (fun f fn hf hfn => by
      obtain rfl : f = 3 := Option.some.inj ((show Tryd.prog.funcNamed Rows.fnWriteListsEachEdgeAndLoneNodeOnceInOrderRow.func = some 3 by kernel_rfl).symm.trans hf) |>.symm
      obtain rfl : fn = Tryd.f3 := (Option.some.inj (Tryd.func3.symm.trans hfn)).symm
      exact ⟨by kernel_rfl, fun j t ht => by
        rw [Tryd.params3] at ht
        have hm : t ∈ [22, 23, 4] := by simpa using Array.mem_of_getElem? ht
        have hall : ([22, 23, 4].all fun u => !Tryd.prog.wantsStandIn u) = true := by kernel_rfl
        exact (show Tryd.prog.wantsStandIn t = false by simpa using List.all_eq_true.1 hall t hm)⟩)
    (by kernel_rfl)
end Go.Proofs.Qxb6003964aDoor
