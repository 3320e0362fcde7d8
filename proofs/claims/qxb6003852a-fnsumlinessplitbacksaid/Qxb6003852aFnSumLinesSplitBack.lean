import Derived.Test.Qxb6003852aStr
import Derived.OpenShut
import Derived.ShutString
namespace Go.Proofs.Qxb6003852a.fnSumLinesSplitBack
open Go.ChangeShapes Go.WideShapes Go.ChangeAt Go.RowKit
open Go.ChangeMaps (open_string shut_string)

theorem zzBytes_any (a0 a1 a2 a3 : ByteArray) (a4 : Bool) (w0 : a0.size ≤ maxLen) (w1 : a1.size ≤ maxLen) (w2 : a2.size ≤ maxLen) (w3 : a3.size ≤ maxLen) (w : World) :
    Calls Try.prog 12 #[.string a0, .string a1, .string a2, .string a3, .bool a4] w fun e w' => ∃ b : Bool, e = .returned (.bool b) ∧ w' = w := by
  unfold maxLen at *
  go_enter Try.func12, Try.ntmps12
  go_wp2
  all_goals
    go_ret
    exact ⟨_, rfl, rfl⟩

theorem split_three (s x y z : ByteArray) (w : World) (hs : s.size ≤ 1048576) (hp : pieces s = [x, y, z]) :
    Calls Try.prog 15 #[.string s] w fun e w' => ∃ g cap, e = .returned (.slice (some ⟨g, 0, none⟩) 3 cap) ∧ w.heap.size ≤ g ∧ g < w'.heap.size ∧ w'.cell? ⟨g, 0, none⟩ = some (.string x) ∧ w'.cell? ⟨g, 1, none⟩ = some (.string y) ∧
      w'.cell? ⟨g, 2, none⟩ = some (.string z) ∧ Below w.heap.size w w' := by
  refine (split_any s w hs).mono ?_
  rintro e w' ⟨v, rfl, hown, hb⟩
  rw [hp] at hown
  obtain ⟨h1, h2 | ⟨g, cap, cur, rfl, hg, hh, r⟩⟩ := hown
  · simp at h2
  · have hown : w'.ownsRow w.heap.size 9 1 (.slice (some ⟨g, 0, none⟩) 3 cap) 3 ([x, y, z].map Value.string) := ⟨h1, .inr ⟨g, cap, cur, rfl, hg, hh, r⟩⟩
    have hc := hown.cells (g := g) rfl
    refine ⟨g, cap, rfl, hg, (hown.lt g rfl).2, ?_, ?_, ?_, hb⟩
    · simpa [Addr.add] using hc 0 (.string x) rfl
    · simpa [Addr.add] using hc 1 (.string y) rfl
    · simpa [Addr.add] using hc 2 (.string z) rfl

theorem early_size (a0 a1 a2 a3 : ByteArray) (a4 : Bool) (w0 : a0.size ≤ maxLen) (w1 : a1.size ≤ maxLen) (w2 : a2.size ≤ maxLen) (w3 : a3.size ≤ maxLen) (w : World) (hE : ¬ (a0.size ≤ 262144 ∧ a1.size ≤ 262144 ∧ a2.size ≤ 262144 ∧ a3.size ≤ 262144)) :
    Calls Try.prog 4 #[.string a0, .string a1, .string a2, .string a3, .bool a4] w fun e w' => e = .returned (.bool true) ∧ Below w.heap.size w w' := by
  have hz := zzBytes_any a0 a1 a2 a3 a4 w0 w1 w2 w3 w
  unfold maxLen at *
  have HE : Hid (¬ (a0.size ≤ 262144 ∧ a1.size ≤ 262144 ∧ a2.size ≤ 262144 ∧ a3.size ≤ 262144)) := hE
  clear hE
  go_enter Try.func4, Try.ntmps4
  go_wp2_with (first | (go_at_call 12; refine hz.mono ?_; rintro e w' ⟨b, rfl, rfl⟩; clear hz))
  all_goals first | (exfalso; apply HE.out; omega) | (go_ret; exact ⟨rfl, Below.refl _ _⟩)

theorem early_space (a0 a1 a2 a3 : ByteArray) (a4 : Bool) (w0 : a0.size ≤ 262144) (w1 : a1.size ≤ 262144) (w2 : a2.size ≤ 262144) (w3 : a3.size ≤ 262144) (w : World) (hE : (hasSp a0 || hasSp a1 || hasSp a2 || hasSp a3) = true) :
    Calls Try.prog 4 #[.string a0, .string a1, .string a2, .string a3, .bool a4] w fun e w' => e = .returned (.bool true) ∧ Below w.heap.size w w' := by
  have hz := zzBytes_any a0 a1 a2 a3 a4 (by unfold maxLen; omega) (by unfold maxLen; omega) (by unfold maxLen; omega) (by unfold maxLen; omega) w
  have HE : Hid ((hasSp a0 || hasSp a1 || hasSp a2 || hasSp a3) = true) := hE
  clear hE
  go_enter Try.func4, Try.ntmps4
  go_wp2_with (first | (go_at_call 12; refine hz.mono ?_; rintro e w' ⟨b, rfl, rfl⟩; clear hz) | (go_at_call 13; refine (hasSpace_any _ _ (by unfold maxLen; omega)).mono ?_; rintro e w' ⟨rfl, rfl⟩))
  all_goals first | (exfalso; have := HE.out; simp_all; done) | (go_ret; exact ⟨rfl, Below.refl _ _⟩)

theorem size_line1 (m v h : ByteArray) (hm : m.size ≤ 262144) (hv : v.size ≤ 262144) (hh : h.size ≤ 262144) : (line1 m v h).size ≤ 1048576 := by
  unfold line1; simp only [ByteArray.size_append]; have : (ByteArray.mk #[32]).size = 1 := rfl; omega
theorem size_line2 (m v h : ByteArray) (hm : m.size ≤ 262144) (hv : v.size ≤ 262144) (hh : h.size ≤ 262144) : (line2 m v h).size ≤ 1048576 := by
  unfold line2; simp only [ByteArray.size_append]; have : (ByteArray.mk #[32]).size = 1 := rfl
  have : (ByteArray.mk #[47, 103, 111, 46, 109, 111, 100, 32]).size = 8 := rfl; omega

set_option maxHeartbeats 1000000 in
theorem through (a0 a1 a2 a3 : ByteArray) (a4 : Bool) (w0 : a0.size ≤ 262144) (w1 : a1.size ≤ 262144) (w2 : a2.size ≤ 262144) (w3 : a3.size ≤ 262144) (w : World)
    (h0 : hasSp a0 = false) (h1 : hasSp a1 = false) (h2 : hasSp a2 = false) (h3 : hasSp a3 = false) :
    Calls Try.prog 4 #[.string a0, .string a1, .string a2, .string a3, .bool a4] w fun e w' => e = .returned (.bool true) ∧ Below w.heap.size w w' := by
  have hz := zzBytes_any a0 a1 a2 a3 a4 (by unfold maxLen; omega) (by unfold maxLen; omega) (by unfold maxLen; omega) (by unfold maxLen; omega) w
  have s1 := size_line1 a0 a1 a2 w0 w1 w2
  have s2 := size_line2 a0 a1 a3 w0 w1 w3
  have P1 : Hid (pieces (line1 a0 a1 a2) = [a0, a1, a2]) := pieces_line1 a0 a1 a2 h0 h1 h2
  have P2 : Hid (pieces (line2 a0 a1 a3) = [a0, a1 ++ gomod, a3]) := pieces_line2 a0 a1 a3 h0 h1 h3
  go_enter Try.func4, Try.ntmps4
  go_wp2_with (first | (go_at_call 12; refine hz.mono ?_; rintro e w' ⟨b, rfl, rfl⟩; clear hz; cases b) | (go_at_call 13; refine (hasSpace_any _ _ (by unfold maxLen; omega)).mono ?_; rintro e w' ⟨rfl, rfl⟩) | (go_at_call 14; refine (sumLines_any a0 a1 a2 a3 a4 _ w0 w1 w2 w3).mono ?_; rintro e w' ⟨rfl, rfl⟩))
  · go_ret
    exact ⟨rfl, Below.refl _ _⟩
  · refine (split_three _ a0 a1 a2 _ s1 P1.out).mono ?_
    rintro e w2 ⟨g, cap, rfl, hg, hg', c0, c1, c2, hb⟩
    have q1 : w2.cell? ⟨w'.heap.size + 2, 1, none⟩ = some (.string (line2 a0 a1 a3)) := by
      have h := hb.cell (p := ⟨w'.heap.size + 2, 1, none⟩) (by simp)
      rw [h, World.cell?_alloc_at _ _ _ _ (by simp)]
      rfl
    have hb0 : Below w'.heap.size w' w2 := ((((Below.refl _ _).alloc (Nat.le_refl _) _).alloc (by simp) _).alloc (by simp; omega) _).trans (hb.mono (by simp; omega))
    go_wp2_with fail
    refine (split_three _ a0 (a1 ++ gomod) a3 _ s2 P2.out).mono ?_
    rintro e w3 ⟨g3, cap3, rfl, hg3, hg3', d0, d1, d2, hb3⟩
    have e0 := (hb3.cell (p := ⟨g, 0, none⟩) hg').trans c0
    have e1 := (hb3.cell (p := ⟨g, 1, none⟩) hg').trans c1
    have e2 := (hb3.cell (p := ⟨g, 2, none⟩) hg').trans c2
    have hbb : Below w'.heap.size w' w3 := hb0.trans (hb3.mono hb0.size)
    clear hb hb0 hb3 c0 c1 c2 q1 hg hg' hg3 hg3' P1 P2
    unfold gomod at d1
    go_wp2
    go_ret
    exact ⟨rfl, hbb⟩

theorem walk (a0 : ByteArray) (a1 : ByteArray) (a2 : ByteArray) (a3 : ByteArray) (a4 : Bool) (w0 : a0.size ≤ maxLen) (w1 : a1.size ≤ maxLen) (w2 : a2.size ≤ maxLen) (w3 : a3.size ≤ maxLen) (w : World) :
    Calls Try.prog 4 #[.string a0, .string a1, .string a2, .string a3, .bool a4] w fun e w' => e = .returned (.bool true) ∧ Below w.heap.size w w' := by
  by_cases hE : a0.size ≤ 262144 ∧ a1.size ≤ 262144 ∧ a2.size ≤ 262144 ∧ a3.size ≤ 262144
  · obtain ⟨g0, g1, g2, g3⟩ := hE
    by_cases hS : (hasSp a0 || hasSp a1 || hasSp a2 || hasSp a3) = true
    · exact early_space a0 a1 a2 a3 a4 g0 g1 g2 g3 w hS
    · simp only [Bool.or_eq_true, not_or, Bool.not_eq_true] at hS
      exact through a0 a1 a2 a3 a4 g0 g1 g2 g3 w hS.1.1.1 hS.1.1.2 hS.1.2 hS.2
  · exact early_size a0 a1 a2 a3 a4 w0 w1 w2 w3 w hE

set_option maxRecDepth 100000 in
theorem lifted (os : Os) (started : os.Started) (H : Type) (enc : TypeId × Value → H) :
    ReturnsInHanded {} Try.checked os 4 .any (Rows.fnSumLinesSplitBackSpec.pre6 enc Try.prog Try.f4 Rows.fnSumLinesSplitBackRow.domain false) (Rows.fnSumLinesSplitBackSpec.post enc Try.prog Try.f4 false true false false) := by
  refine returnsInHanded_of_change (C := Try.checked) Try.own started (by kernel_rfl) Try.func4
    (ChangeSpec.witness6 (enc := enc) (C := Try.checked) false ⟨#[], #[.string ByteArray.empty, .string ByteArray.empty, .string ByteArray.empty, .string ByteArray.empty, .bool false], []⟩ 8 (by kernel_rfl) (by kernel_rfl) (by kernel_rfl) (by kernel_rfl)) ?_
  intro W base args ds gs before hval0 hW hcnd _
  have hval : ∀ (j : Nat) t v, Try.f4.params[j]? = some t → args[j]? = some v → Value.okWide Try.prog W .any base t v := hval0
  have hW' := hW
  obtain ⟨p, q, hA0, hV, rfl, hfz, hnd⟩ := hW
  have hA : DataW.TrodAll enc Try.prog W 0 (fun _ => true) true Try.f4.params.toList args.toList ds p := hA0
  rw [Try.params4] at hA hval
  obtain ⟨v0, vs0, d0, ds0, p0, q0, hargs, rfl, rfl, h0, r0⟩ := trodAll_cons hA
  obtain ⟨v1, vs1, d1, ds1, p1, q1, rfl, rfl, rfl, h1, r1⟩ := trodAll_cons r0
  obtain ⟨v2, vs2, d2, ds2, p2, q2, rfl, rfl, rfl, h2, r2⟩ := trodAll_cons r1
  obtain ⟨v3, vs3, d3, ds3, p3, q3, rfl, rfl, rfl, h3, r3⟩ := trodAll_cons r2
  obtain ⟨v4, vs4, d4, ds4, p4, q4, rfl, rfl, rfl, h4, r4⟩ := trodAll_cons r3
  obtain ⟨rfl, rfl, rfl⟩ := trodAll_nil r4
  obtain rfl : args = #[v0, v1, v2, v3, v4] := by cases args; simp_all
  obtain ⟨rfl, rfl⟩ := trodVars_none hV
  obtain ⟨a0, rfl, rfl, rfl, w0⟩ := open_string Try.underlying9 (hval 0 9 v0 rfl rfl) h0
  obtain ⟨a1, rfl, rfl, rfl, w1⟩ := open_string Try.underlying9 (hval 1 9 v1 rfl rfl) h1
  obtain ⟨a2, rfl, rfl, rfl, w2⟩ := open_string Try.underlying9 (hval 2 9 v2 rfl rfl) h2
  obtain ⟨a3, rfl, rfl, rfl, w3⟩ := open_string Try.underlying9 (hval 3 9 v3 rfl rfl) h3
  obtain ⟨a4, rfl, rfl, rfl⟩ := open_bool Try.underlying4 (hval 4 4 v4 rfl rfl) h4
  clear hA0 hval0
  refine (walk a0 a1 a2 a3 a4 w0 w1 w2 w3 W).mono fun e W' ⟨he, hb⟩ => ?_
  subst he
  exact ⟨_, rfl, law_post Try.laidOut (by rw [Try.params4]; decide +kernel) rfl rfl Try.underlying4 rfl hW' hb⟩

theorem over : Rows.fnSumLinesSplitBackRow.holds Try.pinned (OpenSpec.ofChange Rows.fnSumLinesSplitBackSpec) :=
  OpenClaim.holds_of_wide 4 Try.f4 rfl rfl rfl rfl rfl rfl rfl ⟨rfl, rfl, rfl, rfl, rfl⟩ rfl rfl rfl rfl rfl (by kernel_rfl) Try.func4 (by kernel_rfl)
    (of_decide_eq_true (by kernel_rfl)) (by unfold Func.isWrapper; first | (rw [if_pos (by decide +kernel)]; kernel_rfl) | (rw [if_neg (by decide +kernel)]; exact ⟨rfl, rfl⟩))
    (fun os started H enc _ => lifted os started H enc)
end Go.Proofs.Qxb6003852a.fnSumLinesSplitBack

namespace Go.Proofs.Qxb6003852a
/-- THE STATEMENT. -/
theorem fnSumLinesSplitBack_proved : Rows.FnSumLinesSplitBackSaid :=
  fnSumLinesSplitBack.over
end Go.Proofs.Qxb6003852a
