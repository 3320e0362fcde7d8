/-
  An argument of the type [][]int32, opened.
-/
import Derived.Test.Qxb6004021aGraph
import Derived.OpenShut
namespace Go.Proofs.Qxb6004021a
open Go.ChangeShapes Go.WideShapes Go.ChangeAt Go.RowKit
open Go.Deep

theorem Try.cells32 : Try.prog.cellsOf 32 = 1 := by kernel_rfl
theorem Try.cells21 : Try.prog.cellsOf 21 = 1 := by kernel_rfl

theorem view_rows {H : Type} {enc : TypeId × Value → H} {W : World} {base : Nat} {v : Value} {d : DataW H} {ps : List MemPlace} (hv : Value.okWide Try.prog W .any base 24 v)
    (h : DataW.Trod enc Try.prog W 0 (fun _ => true) true 24 v d ps) : ∃ a bs os n c A L C RB RO Z, v = .slice a n c ∧ InRows W a bs os n c A L C RB RO Z := by
  obtain ⟨a0, len, cap, rfl⟩ := okWide_slice Try.underlying24 hv
  obtain ⟨fuel, hf⟩ := h
  rcases open_int_rows Try.underlying24 Try.underlying32 Try.underlying21 Try.cells32 Try.cells21 hf with ⟨hcs, hx⟩ | ⟨a, len', cap', A, L, C, Z, hcs, _, hl, hm, hx, hall⟩
  · simp [Value.cells] at hcs
    obtain ⟨rfl, rfl, rfl⟩ := hcs
    exact ⟨none, 0, 0, 0, 0, fun _ => none, fun _ => 0, fun _ => 0, fun _ => 0, fun _ => 0, fun _ => [], rfl, ⟨fun h => absurd h (by omega), fun _ => ⟨rfl, rfl⟩, fun r hr => absurd hr (by omega), fun r hr => absurd hr (by omega), fun r hr => absurd hr (by omega), fun r hr => absurd hr (by omega), fun r hr => absurd hr (by omega), by unfold maxLen; omega, fun r hr => absurd hr (by omega)⟩⟩
  · simp [Value.cells] at hcs
    obtain ⟨rfl, rfl, rfl⟩ := hcs
    obtain ⟨b, off, spot⟩ := a
    refine ⟨_, b, off, _, _, A, L, C, fun r => ((A r).map Addr.block).getD 0, fun r => ((A r).map Addr.off).getD 0, Z, rfl, ⟨fun hn => ?_, fun e => (by cases e), fun r hr => ?_, fun r hr e => ?_, fun r hr j hj => ?_, fun r hr j hj => ?_, fun r hr => ?_, by omega, fun r hr => ?_⟩⟩
    · have := World.cell?_spot (hall 0 (by omega)).1
      have hsp : spot = none := by simpa [Addr.add] using this
      rw [hsp]
    · have h1 := (hall r (by omega)).1
      have h0 := World.cell?_spot (hall 0 (by omega)).1
      have hsp : spot = none := by simpa [Addr.add] using h0
      subst hsp
      rw [add_plain] at h1
      exact h1
    · have h1 := (hall r (by omega))
      have h2 := h1.2.2.2.2.2.1 e
      have h3 := h1.2.1
      exact ⟨by omega, h2⟩
    · have h1 := (hall r (by omega))
      have hjc : j < C r := Nat.lt_of_lt_of_le hj h1.2.1
      cases hA : A r with
      | none => have := h1.2.2.2.2.2.1 hA; omega
      | some a' =>
        obtain ⟨b', o', s'⟩ := a'
        have h2 := (h1.2.2.2.2.2.2 ⟨b', o', s'⟩ hA).2
        have hsp : s' = none := by simpa [Addr.add] using World.cell?_spot (h2 0 (by omega))
        subst hsp
        refine ⟨by simp, ?_⟩
        have h3 := h2 j hjc
        rw [add_plain] at h3
        simpa using h3
    · have h1 := (hall r (by omega))
      have hjc : j < (Z r).length := by have := h1.2.1; have := h1.2.2.2.1; omega
      have hw := h1.2.2.2.2.1 ((Z r).getD j 0) (by simp [hjc])
      exact bounds_i32 hw
    · have h1 := (hall r (by omega)); have := h1.2.1; have := h1.2.2.2.1; omega
    · have h1 := (hall r (by omega)); have := h1.2.1; have := h1.2.2.1; omega
end Go.Proofs.Qxb6004021a
