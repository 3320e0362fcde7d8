/-
  The law FnClassIgnoresWhatNoLongerCounts, proved: for every byte the call returns true.
-/
import Derived.Test.Qxb6004012aClass
import Derived.WalkKit
import Derived.ProofKit
import Derived.OpenShut
import Derived.ShutString
namespace Go.Proofs.Qxb6004012a.fnClassIgnoresWhatNoLongerCounts
open Go.ChangeShapes Go.WideShapes Go.ChangeAt Go.RowKit
open Go.ChangeMaps (open_string shut_string)
set_option linter.unusedVariables false      -- a walk need not use every 'w<i>' (that an integer argument fits its kind)

theorem own : ownKnob Try.prog.godebug = none := by kernel_rfl

theorem ignore_facts (s : Int) (h0 : 0 ≤ s) (h1 : s ≤ 255) :
    0 ≤ cls s ∧ cls s ≤ 7 ∧ 0 ≤ bits .xor .u8 s 1 ∧ bits .xor .u8 s 1 ≤ 255 ∧ (1 ≤ s / 4 → (cls (bits .xor .u8 s 1) == cls s) = true) ∧ (2 ≤ s / 4 → s ≤ 251 → (cls (s + 4) == cls s) = true) ∧
    ((if 4 ≤ cls s then cls s - 4 else cls s) == 0) = (s / 4 == 0 && bits .and .u8 s 1 == 0) := by
  have := all_u8 (fun s => decide (0 ≤ cls s ∧ cls s ≤ 7 ∧ 0 ≤ bits .xor .u8 s 1 ∧ bits .xor .u8 s 1 ≤ 255 ∧ (1 ≤ s / 4 → (cls (bits .xor .u8 s 1) == cls s) = true) ∧ (2 ≤ s / 4 → s ≤ 251 → (cls (s + 4) == cls s) = true) ∧
    ((if 4 ≤ cls s then cls s - 4 else cls s) == 0) = (s / 4 == 0 && bits .and .u8 s 1 == 0))) (by decide +kernel) s h0 h1
  exact of_decide_eq_true this

def base (c : Int) : Int := if 4 ≤ c then c - 4 else c
theorem base_any (c : Int) (h0 : 0 ≤ c) (h1 : c ≤ 7) (w : World) :
    Calls Try.prog 8 #[.int .u8 c] w fun e w' => e = .returned (.int .u8 (base c)) ∧ w' = w := by
  go_enter Try.func8, Try.ntmps8
  go_wp2
  all_goals
    go_ret
    exact ⟨ret_int (by unfold base; simp [*]; try omega), rfl⟩

theorem ret_bool {a b : Bool} (h : a = b) : Ending.returned (.bool a) = .returned (.bool b) := by rw [h]

theorem walk5 (s : Int) (h0 : 0 ≤ s) (h1 : s ≤ 255) (w : World) :
    Calls Try.prog 5 #[.int .u8 s] w fun e w' => e = .returned (.bool true) ∧ Grown w w' := by
  obtain ⟨a1, a2, a3, a4, a5, a6, a7⟩ := ignore_facts s h0 h1
  have A7 : Hid ((base (cls s) == 0) = (s / 4 == 0 && bits .and .u8 s 1 == 0)) := a7
  clear a7
  by_cases c1 : 1 ≤ s / 4
  · have b1 := a5 c1
    have b0 : ¬ s / 4 = 0 := by omega
    by_cases c2 : 2 ≤ s / 4
    · by_cases c3 : s ≤ 251
      · have b2 := a6 c2 c3
        have hx : 0 ≤ s + 4 := by omega
        have hy : s + 4 ≤ 255 := by omega
        clear a5 a6
        go_enter Try.func5, Try.ntmps5
        go_wp2_with (first | (go_at_call 6; refine (zzclass_any _ (by assumption) (by assumption) _).mono ?_; rintro e w' ⟨rfl, rfl⟩) | (go_at_call 8; refine (base_any _ (by assumption) (by assumption) _).mono ?_; rintro e w' ⟨rfl, rfl⟩))
        go_ret
        exact ⟨ret_bool (by rw [A7.out]; simp [b0]), Grown.refl _⟩
      · clear a5 a6
        go_enter Try.func5, Try.ntmps5
        go_wp2_with (first | (go_at_call 6; refine (zzclass_any _ (by assumption) (by assumption) _).mono ?_; rintro e w' ⟨rfl, rfl⟩) | (go_at_call 8; refine (base_any _ (by assumption) (by assumption) _).mono ?_; rintro e w' ⟨rfl, rfl⟩))
        go_ret
        exact ⟨ret_bool (by rw [A7.out]; simp [b0]), Grown.refl _⟩
    · clear a5 a6
      go_enter Try.func5, Try.ntmps5
      go_wp2_with (first | (go_at_call 6; refine (zzclass_any _ (by assumption) (by assumption) _).mono ?_; rintro e w' ⟨rfl, rfl⟩) | (go_at_call 8; refine (base_any _ (by assumption) (by assumption) _).mono ?_; rintro e w' ⟨rfl, rfl⟩))
      go_ret
      exact ⟨ret_bool (by rw [A7.out]; simp [b0]), Grown.refl _⟩
  · have b0 : s / 4 = 0 := by omega
    clear a5 a6
    go_enter Try.func5, Try.ntmps5
    go_wp2_with (first | (go_at_call 6; refine (zzclass_any _ (by assumption) (by assumption) _).mono ?_; rintro e w' ⟨rfl, rfl⟩) | (go_at_call 8; refine (base_any _ (by assumption) (by assumption) _).mono ?_; rintro e w' ⟨rfl, rfl⟩))
    go_ret
    exact ⟨ret_bool (by rw [A7.out]; simp [b0]), Grown.refl _⟩
theorem walk (a0 : Int) (w0 : (Lit.int .u8 a0).wf = true) (w : World) :
    Calls Try.prog 5 #[.int .u8 a0] w fun e w' => e = .returned (.bool true) ∧ Grown w w' :=
  have hb := bounds_u8 w0
  walk5 a0 hb.1 hb.2 w

/-! ### THE ROW's STEP: WRITTEN OUT: LEAVE IT -/
set_option maxRecDepth 100000 in
theorem lifted (os : Os) (started : os.Started) (H : Type) (enc : TypeId × Value → H) :
    ReturnsInHanded {} Try.checked os 5 .any (Rows.fnClassIgnoresWhatNoLongerCountsSpec.pre6 enc Try.prog Try.f5 Rows.fnClassIgnoresWhatNoLongerCountsRow.domain false) (Rows.fnClassIgnoresWhatNoLongerCountsSpec.post enc Try.prog Try.f5 false true false false) := by
  refine returnsInHanded_of_change (C := Try.checked) own started (by kernel_rfl) Try.func5
    (ChangeSpec.witness6 (enc := enc) (C := Try.checked) false ⟨#[], #[.int .u8 0], []⟩ 8 (by kernel_rfl) (by kernel_rfl) (by kernel_rfl) (by kernel_rfl)) ?_
  intro W base args ds gs before hval0 hW hcnd _
  have hval : ∀ (j : Nat) t v, Try.f5.params[j]? = some t → args[j]? = some v → Value.okWide Try.prog W .any base t v := hval0
  have hW' := hW
  obtain ⟨p, q, hA0, hV, rfl, hfz, hnd⟩ := hW
  have hA : DataW.TrodAll enc Try.prog W 0 (fun _ => true) true Try.f5.params.toList args.toList ds p := hA0
  rw [Try.params5] at hA hval
  obtain ⟨v0, vs0, d0, ds0, p0, q0, hargs, rfl, rfl, h0, r0⟩ := trodAll_cons hA
  obtain ⟨rfl, rfl, rfl⟩ := trodAll_nil r0
  obtain rfl : args = #[v0] := by cases args; simp_all
  obtain ⟨rfl, rfl⟩ := trodVars_none hV
  obtain ⟨a0, rfl, rfl, rfl, w0⟩ := open_int Try.underlying5 (hval 0 5 v0 rfl rfl) h0
  clear hA0 hval0
  simp only [List.append_nil] at hW'
  refine (walk a0 w0 W).mono fun e W' ⟨he, hg⟩ => ?_
  subst he
  exact ⟨_, rfl, post_of_same (pa := []) (pv := []) hW' (fun _ _ _ => (trodAll_cons_mk (shut_bool Try.underlying4 _) trodAll_mk0)) (fun sp _ => (trodAll_cons_mk (shut_int Try.underlying5 w0) trodAll_mk0)) (fun _ _ => rfl) rfl
    (hg.frame _) hg.2.1 (ok_one (by kernel_rfl) rfl (okWide_bool_mk Try.underlying4 _))⟩

theorem over : Rows.fnClassIgnoresWhatNoLongerCountsRow.holds Try.pinned (OpenSpec.ofChange Rows.fnClassIgnoresWhatNoLongerCountsSpec) :=
  OpenClaim.holds_of_wide 5 Try.f5 rfl rfl rfl rfl rfl rfl rfl ⟨rfl, rfl, rfl, rfl, rfl⟩ rfl rfl rfl rfl rfl (by kernel_rfl) Try.func5 (by kernel_rfl)
    (of_decide_eq_true (by kernel_rfl)) (by unfold Func.isWrapper; first | (rw [if_pos (by decide +kernel)]; kernel_rfl) | (rw [if_neg (by decide +kernel)]; exact ⟨rfl, rfl⟩))
    (fun os started H enc _ => lifted os started H enc)

end Go.Proofs.Qxb6004012a.fnClassIgnoresWhatNoLongerCounts

namespace Go.Proofs.Qxb6004012a
/-- THE STATEMENT. -/
theorem fnClassIgnoresWhatNoLongerCounts_proved : Rows.FnClassIgnoresWhatNoLongerCountsSaid :=
  fnClassIgnoresWhatNoLongerCounts.over
end Go.Proofs.Qxb6004012a
