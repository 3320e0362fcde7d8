import Derived.Test.Qxb6004021aView
import Derived.Test.Qxb6004021aLawB
namespace Go.Proofs.Qxb6004021a.fnComponentsSameLabelExactlyWhenMutuallyReachable
open Go.ChangeShapes Go.WideShapes Go.ChangeAt Go.RowKit

set_option maxRecDepth 100000 in
theorem lifted (os : Os) (started : os.Started) (H : Type) (enc : TypeId × Value → H) :
    ReturnsInHanded {} Try.checked os 4 .any (Rows.fnComponentsSameLabelExactlyWhenMutuallyReachableSpec.pre6 enc Try.prog Try.f4 Rows.fnComponentsSameLabelExactlyWhenMutuallyReachableRow.domain false) (Rows.fnComponentsSameLabelExactlyWhenMutuallyReachableSpec.post enc Try.prog Try.f4 false true false false) := by
  refine returnsInHanded_of_change (C := Try.checked) Try.own started (by kernel_rfl) Try.func4
    (ChangeSpec.witness6 (enc := enc) (C := Try.checked) false ⟨#[], #[.slice none 0 0], []⟩ 8 (by kernel_rfl) (by kernel_rfl) (by kernel_rfl) (by kernel_rfl)) ?_
  intro W base args ds gs before hval0 hW hcnd _
  have hval : ∀ (j : Nat) t v, Try.f4.params[j]? = some t → args[j]? = some v → Value.okWide Try.prog W .any base t v := hval0
  have hW' := hW
  obtain ⟨p, q, hA0, hV, rfl, hfz, hnd⟩ := hW
  have hA : DataW.TrodAll enc Try.prog W 0 (fun _ => true) true Try.f4.params.toList args.toList ds p := hA0
  rw [Try.params4] at hA hval
  obtain ⟨v0, vs0, d0, ds0, p0, q0, hargs, rfl, rfl, h0, r0⟩ := trodAll_cons hA
  obtain ⟨rfl, rfl, rfl⟩ := trodAll_nil r0
  obtain rfl : args = #[v0] := by cases args; simp_all
  obtain ⟨rfl, rfl⟩ := trodVars_none hV
  obtain ⟨a, bs, ofs, n, c, A, L, C, RB, RO, Z, rfl, hrows⟩ := view_rows (hval 0 24 v0 rfl rfl) h0
  clear hA0 hval0
  refine (lawB_any W hrows).mono fun e W' ⟨he, hb⟩ => ?_
  subst he
  exact ⟨_, rfl, law_post Try.laidOut (by rw [Try.params4]; decide +kernel) rfl rfl Try.underlying4 rfl hW' hb⟩

theorem over : Rows.fnComponentsSameLabelExactlyWhenMutuallyReachableRow.holds Try.pinned (OpenSpec.ofChange Rows.fnComponentsSameLabelExactlyWhenMutuallyReachableSpec) :=
  OpenClaim.holds_of_wide 4 Try.f4 rfl rfl rfl rfl rfl rfl rfl ⟨rfl, rfl, rfl, rfl, rfl⟩ rfl rfl rfl rfl rfl (by kernel_rfl) Try.func4 (by kernel_rfl)
    (of_decide_eq_true (by kernel_rfl)) (by unfold Func.isWrapper; first | (rw [if_pos (by decide +kernel)]; kernel_rfl) | (rw [if_neg (by decide +kernel)]; exact ⟨rfl, rfl⟩))
    (fun os started H enc _ => lifted os started H enc)
end Go.Proofs.Qxb6004021a.fnComponentsSameLabelExactlyWhenMutuallyReachable

namespace Go.Proofs.Qxb6004021a
/-- THE STATEMENT. -/
theorem fnComponentsSameLabelExactlyWhenMutuallyReachable_proved : Rows.FnComponentsSameLabelExactlyWhenMutuallyReachableSaid :=
  fnComponentsSameLabelExactlyWhenMutuallyReachable.over
end Go.Proofs.Qxb6004021a
