/-
  The law's arguments, opened; the table, out of the row's condition.
-/
import Derived.Test.Qxb6003964aDoorLawA
import Derived.OpenShut
import Derived.LaidMore
import Derived.Lib.LaidTab
import Derived.LaidHandle
import Derived.MakeChecks
import Derived.Stop.Joined
namespace Go.Proofs.Qxb6003964aDoor
open Go.ChangeShapes Go.WideShapes Go.ChangeAt Go.RowKit
open Go.Deep

theorem Tryd.cells2 : Tryd.prog.cellsOf 2 = 1 := by kernel_rfl
theorem Tryd.cells5 : Tryd.prog.cellsOf 5 = 1 := by kernel_rfl

theorem bounds_i64 {n : Int} (h : (Lit.int .i64 n).wf = true) : -9223372036854775808 ≤ n ∧ n < 9223372036854775808 := by
  simp only [Lit.wf, Bool.and_eq_true, decide_eq_true_eq] at h
  have h1 : IntKind.i64.min = -9223372036854775808 := by decide
  have h2 : IntKind.i64.max = 9223372036854775807 := by decide
  omega
theorem bounds_u8 {n : Int} (h : (Lit.int .u8 n).wf = true) : 0 ≤ n ∧ n < 256 := by
  simp only [Lit.wf, Bool.and_eq_true, decide_eq_true_eq] at h
  have h1 : IntKind.u8.min = 0 := by decide
  have h2 : IntKind.u8.max = 255 := by decide
  omega
theorem cell_block {W : World} {a : Addr} {v : Value} (h : W.cell? a = some v) : a.block < W.heap.size := by
  cases e : W.heap[a.block]? with
  | none =>
    unfold World.cell? at h
    rw [e] at h
    simp at h
  | some x => exact (Array.getElem?_eq_some_iff.1 e).1

theorem view_nums {H : Type} {enc : TypeId × Value → H} {W : World} {base : Nat} {v : Value} {d : DataW H} {ps : List MemPlace} {t e : TypeId} {k : IntKind} (ht : Tryd.prog.underlying t = some (.slice e)) (he : Tryd.prog.underlying e = some (.int k)) (hc : Tryd.prog.cellsOf e = 1)
    (hv : Value.okWide Tryd.prog W .any base t v) (h : DataW.Trod enc Tryd.prog W 0 (fun _ => true) true t v d ps) : ∃ ao n c Z, v = .slice ao n c ∧ NumArg k W ao n c Z ∧ ∀ j, j < n → (Lit.int k (Z j)).wf = true := by
  obtain ⟨a0, len, cap, rfl⟩ := okWide_slice ht hv
  obtain ⟨fuel, hf⟩ := h
  rcases open_ints ht he hc hf with ⟨hcs, hx⟩ | ⟨a, len', cap', zs, hcs, _, hl, hm, hlen, hx, hcell, hwf⟩
  · simp [Value.cells] at hcs
    obtain ⟨rfl, rfl, rfl⟩ := hcs
    exact ⟨none, 0, 0, fun _ => 0, rfl, ⟨fun _ => ⟨rfl, rfl⟩, fun j hj => by omega, fun a ha => by cases ha⟩, fun j hj => by omega⟩
  · simp [Value.cells] at hcs
    obtain ⟨rfl, rfl, rfl⟩ := hcs
    have hzl : len ≤ zs.length := by rw [hlen]; split <;> omega
    refine ⟨some a, len, cap, fun j => zs.getD j 0, rfl, ⟨fun e => (by cases e), fun j hj b hb => ?_, fun b hb hn => ?_⟩, fun j hj => ?_⟩
    · cases hb
      exact hcell j (by omega)
    · cases hb
      have := cell_block (hcell 0 (by omega))
      rwa [addr_block] at this
    · refine hwf _ ?_
      show zs.getD j 0 ∈ zs
      have : zs.getD j 0 = zs[j]'(by omega) := by simp [List.getD_eq_getElem?_getD, List.getElem?_eq_getElem (show j < zs.length by omega)]
      rw [this]
      exact List.getElem_mem _

theorem gPow : Tryd.prog.globalNamed Tryd.powName = some 1 := by kernel_rfl
theorem tPow : (Tryd.prog.globals[1]?).map (·.type) = some 66 := by kernel_rfl
theorem Tryd.cells57 : Tryd.prog.cellsOf 57 = 1 := by kernel_rfl
theorem Tryd.cells66 : Tryd.prog.cellsOf 66 = 20 := by kernel_rfl
theorem powData : (Rows.laid_internal_strconv_uint64pow10 : DataW Unit) = Lib.tabData .u64 Lib.pow10Tab := by kernel_rfl

def laid4 : List (String × DataW Unit) := Rows.fnWriteListsEachEdgeAndLoneNodeOnceInOrderRow.laid

/-- What the row's condition gives the walk: the table of the powers of ten. -/
theorem of_laid {W : World} (h : laidMetH Tryd.prog laid4 W) : Lib.TabIs Tryd.prog W Tryd.powName .u64 Lib.pow10Tab := by
  rw [MakeChecks.laidMetH_plain _ _ _ (by kernel_rfl)] at h
  obtain ⟨ps, ⟨_, _, _, _, _, _, _, _, _, _, ⟨_, _, _, _, _, _, _, _, _, _, ⟨g2, t2, cs2, f2, p2, q2, hg2, ht2, hv2, hd2, _, _⟩, _⟩, _⟩, _, _⟩ := h
  obtain rfl := Option.some.inj (gPow.symm.trans hg2)
  obtain rfl := Option.some.inj (tPow.symm.trans ht2)
  rw [powData] at hd2
  exact hv2.trans (by rw [← Lib.cells_of_tab Tryd.underlying66 Tryd.underlying57 Tryd.cells57 Tryd.cells66 hd2])

/-- The door's own heap meets the condition. -/
theorem door_met (os : Os) (args : Array Value) : laidMetH Tryd.prog laid4 ((World.doorLaid Tryd.prog 43 os).forCall (fun _ _ => 0) ⟨#[], args, []⟩).memory :=
  laidMetH_of_parts3 (fuel := 8) (laidMet_of_run' 8 (by kernel_rfl) (by kernel_rfl)) (by kernel_rfl) (by kernel_rfl)
end Go.Proofs.Qxb6003964aDoor
