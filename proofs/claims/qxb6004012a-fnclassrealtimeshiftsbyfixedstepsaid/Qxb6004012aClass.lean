import Derived.Test.Qxb6004012aRows
import Derived.WalkKit
import Derived.ProofKit
namespace Go.Proofs.Qxb6004012a
open Go.ChangeShapes Go.WideShapes Go.ChangeAt Go.RowKit

theorem ret_int {k : IntKind} {a b : Int} (h : a = b) : Ending.returned (.int k a) = .returned (.int k b) := by rw [h]

theorem rw_any (s : Int) (h0 : 0 ≤ s) (h1 : s ≤ 255) (w : World) :
    Calls Try.prog 10 #[.int .u8 s] w fun e w' => e = .returned (.int .i64 (s / 4)) ∧ w' = w := by
  go_enter Try.func10, Try.ntmps10
  go_wp2
  go_ret
  exact ⟨rfl, rfl⟩

/-- The class of a walk state, as a number. -/
def cls (s : Int) : Int :=
  (if 2 ≤ s / 4 then 3 else if s / 4 == 1 then 2 else if bits .and .u8 s 1 != 0 then 1 else 0) + (if bits .and .u8 s 2 != 0 then 4 else 0)

theorem class_any (s : Int) (h0 : 0 ≤ s) (h1 : s ≤ 255) (w : World) :
    Calls Try.prog 9 #[.int .u8 s] w fun e w' => e = .returned (.int .u8 (cls s)) ∧ w' = w := by
  go_enter Try.func9, Try.ntmps9
  go_wp2
  all_goals
    go_ret
    exact ⟨ret_int (by unfold cls; simp [*]; try omega), rfl⟩
theorem zzclass_any (s : Int) (h0 : 0 ≤ s) (h1 : s ≤ 255) (w : World) :
    Calls Try.prog 6 #[.int .u8 s] w fun e w' => e = .returned (.int .u8 (cls s)) ∧ w' = w := by
  go_enter Try.func6, Try.ntmps6
  go_wp2_with (go_at_call 9; refine (class_any s h0 h1 _).mono ?_; rintro e w' ⟨rfl, rfl⟩)
  go_ret
  exact ⟨rfl, rfl⟩

/-- What holds at each of the 256 bytes holds at every number of the kind uint8. -/
theorem all_u8 (p : Int → Bool) (h : (List.range 256).all (fun n => p (n : Int)) = true) (s : Int) (h0 : 0 ≤ s) (h1 : s ≤ 255) : p s = true := by
  obtain ⟨n, rfl⟩ := Int.eq_ofNat_of_zero_le h0
  rw [List.all_eq_true] at h
  exact h n (List.mem_range.2 (by omega))
end Go.Proofs.Qxb6004012a
