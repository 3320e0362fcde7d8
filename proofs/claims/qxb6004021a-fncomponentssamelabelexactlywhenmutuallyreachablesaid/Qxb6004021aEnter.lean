import Derived.Test.Qxb6004021aMem
import Derived.Deep.QuietTactic
import Derived.BigQuiet
import Derived.BigRegion
namespace Go.Proofs.Qxb6004021a
open Go.ChangeShapes Go.WideShapes Go.ChangeAt Go.RowKit
open Tj (upd St)
variable {B n : Nat} {w0 : World} {s : St} {vc vs : Value}

theorem Try.info3 : (Try.prog.info? 3).map (fun i => (i.zero, i.size, i.bytes)) = some (some (.int .i64 0), 1, 8) := by kernel_rfl
theorem Try.info49 : (Try.prog.info? 49).map (fun i => (i.zero, i.size, i.bytes)) = some (some (.agg #[.int .i64 0, .int .i64 0]), 2, 16) := by kernel_rfl

set_option maxHeartbeats 1000000 in
theorem enter_any (v : Nat) (w : World) (hM : Mem B n w0 s vc vs w) (hv : v < n) (hr : s.reached ≤ 65536) (hc : s.calls.length ≤ 65536) (hs : s.stack.length ≤ 65536) :
    Calls Try.prog 24 #[.int .i64 (v : Int), .pointer (some ⟨B + 9, 0, none⟩), .pointer (some ⟨B + 1, 0, none⟩), .pointer (some ⟨B + 3, 0, none⟩), .pointer (some ⟨B + 8, 0, none⟩), .pointer (some ⟨B + 6, 0, none⟩), .pointer (some ⟨B + 7, 0, none⟩)] w
      fun e w' => e = .returned (.tuple #[]) ∧ ∃ vc' vs', Mem B n w0 (Tj.enter s v) vc' vs' w' := by
  obtain ⟨i3, hi, hz0, hz1, hz2⟩ := info_parts Try.info3
  obtain ⟨i49, ki, kz0, kz1, kz2⟩ := info_parts Try.info49
  have hvn : (v : Int) < (n : Int) := by omega
  have c1 := cell_of_one hM.vord
  have c3 := cell_of_one hM.vlow
  have c9 := cell_of_one hM.rch
  have g9 := free_of_one hM.rch
  have c8 := cell_of_one hM.vstk
  have o1 := hM.ord.cell hv
  have o2 := hM.low.cell hv
  have f1 := hM.ord.free v
  have f2 := hM.low.free v
  have M1 : Mem B n w0 { s with order := upd s.order v s.reached, low := upd s.low v s.reached, reached := s.reached + 1 } vc vs ((((w.setCell ⟨B, v, none⟩ (.int .i64 s.reached)).setCell ⟨B + 2, v, none⟩ (.int .i64 s.reached)).setCell ⟨B + 9, 0, none⟩ (.int .i64 ((s.reached + 1 : Nat) : Int))).drew) :=
    (((hM.setOrd v s.reached).setLow v s.reached).setRch (s.reached + 1)).drew
  clear hM
  go_enter Try.func24, Try.ntmps24
  go_wp2
  go_region
  go_wp2_with (at_builtin; refine wpList_append_own _ rfl (.tmp 18) (.tmp 20) 28 rfl (B + 10) 3 i3 (.int .i64 0) 1 8 Try.underlying28 hi hz0 hz1 hz2 rfl (by decide) _ _ _ rfl (by exact (M1.alloc _).ostk) ⟨_, 0, none⟩ 1 1 [.int .i64 (v : Int)] rfl rfl ?c1 ?c2 ?c3 ?c4 ?c5 ?_)
  case c1 => exact one_newD _ _ _ _ (by simp)
  case c2 => intro u hu; simp at hu; subst hu; rfl
  case c3 => unfold maxLen; omega
  case c4 => omega
  case c5 => have := M1.sz; simp at this ⊢; omega
  intro v' w1 hown' hgrow _
  obtain ⟨a1, k1, rfl⟩ := own_shape hown'
  have N1 := M1.alloc (.cells #[.int .i64 (v : Int)] 3)
  have M2 := N1.newStack (st := v :: s.stack) hgrow (by rw [nodes_cons]; exact hown')
  have d8 := cell_of_one (N1.lowS hgrow (by omega) N1.vstk)
  have e8 := free_of_one (N1.lowS hgrow (by omega) N1.vstk)
  have d6 := cell_of_one (N1.lowS hgrow (by omega) N1.von)
  have d7 := cell_of_one (N1.lowS hgrow (by omega) N1.vcal)
  have e7 := free_of_one (N1.lowS hgrow (by omega) N1.vcal)
  have d5 := (N1.rowS hgrow (by omega) N1.on).cell hv
  have e5 := (N1.rowS hgrow (by omega) N1.on).free v
  have M3 := M2.setOn v true
  clear M1 N1 M2 hgrow hown' c1 c3 c9 g9 c8 o1 o2 f1 f2
  go_wp2_with (at_builtin; refine wpList_append_own _ rfl (.tmp 25) (.tmp 28) 47 rfl (B + 10) 49 i49 (.agg #[.int .i64 0, .int .i64 0]) 2 16 Try.underlying47 ki kz0 kz1 kz2 rfl (by decide) _ _ _ rfl (by exact (M3.alloc _).ocal) ⟨_, 0, none⟩ 1 1 [.int .i64 (v : Int), .int .i64 0] rfl rfl ?q1 ?q2 ?q3 ?q4 ?q5 ?_)
  case q2 => exact ⟨rfl, rfl⟩
  case q3 => unfold maxLen; omega
  case q4 => omega
  case q5 => have := M3.sz; simp only [size_set] at this; omega
  intro v4 w4 hown4 hgrow4 _
  obtain ⟨a4, k4, rfl⟩ := own_shape hown4
  have N3 := M3.alloc (.cells #[.int .i64 (v : Int), .int .i64 0] 49)
  have M4 := N3.newCalls (cs := (v, 0) :: s.calls) hgrow4 (by rw [frames_cons]; exact hown4)
  have i7 := cell_of_one (N3.lowC hgrow4 (by omega) N3.vcal)
  have j7 := free_of_one (N3.lowC hgrow4 (by omega) N3.vcal)
  clear M3 N3 hgrow4 hown4 d8 e8 d6 d7 e7 d5 e5
  go_wp2
  go_end0
  exact ⟨rfl, _, _, M4⟩
end Go.Proofs.Qxb6004021a
