/-
  Made rows, and copies into them.
-/
import Derived.Test.Qxb6003964aDoorOff
import Derived.Deep.WholeRow
namespace Go.Proofs.Qxb6003964aDoor
open Go.ChangeShapes Go.WideShapes Go.ChangeAt Go.RowKit
open Go.Lib (byteCells decDigits nDigits)

theorem info3z : (Tryd.prog.info? 3).map (fun i => (i.zero, i.size, i.bytes)) = some (some (.int .i64 0), 1, 8) := by kernel_rfl
theorem info2z : (Tryd.prog.info? 2).map (fun i => (i.zero, i.size, i.bytes)) = some (some (.int .i64 0), 1, 8) := by kernel_rfl
theorem info4z : (Tryd.prog.info? 4).map (fun i => (i.zero, i.size, i.bytes)) = some (some (.bool false), 1, 1) := by kernel_rfl
theorem size2 : (Tryd.prog.info? 2).map (·.size) = some 1 := by kernel_rfl
theorem size5' : (Tryd.prog.info? 5).map (·.size) = some 1 := by kernel_rfl
theorem make_ints (n : Nat) (hn : n ≤ 65536) (w : World) : (Instr.makeSlice 26 (.int .i64 (n : Int)) (.int .i64 (n : Int))).run Tryd.prog w = .ok (.slice (some ⟨w.heap.size, 0, none⟩) n n) (w.alloc (.cells (madeCells #[.int .i64 0] n) 3)) :=
  run_make_row' (P := Tryd.prog) 26 3 (.int .i64 0) 8 Tryd.underlying26 info3z rfl .i64 .i64 n (by omega) (by omega) w
theorem make_i64s (n : Nat) (hn : n ≤ 65536) (w : World) : (Instr.makeSlice 22 (.int .i64 (n : Int)) (.int .i64 (n : Int))).run Tryd.prog w = .ok (.slice (some ⟨w.heap.size, 0, none⟩) n n) (w.alloc (.cells (madeCells #[.int .i64 0] n) 2)) :=
  run_make_row' (P := Tryd.prog) 22 2 (.int .i64 0) 8 Tryd.underlying22 info2z rfl .i64 .i64 n (by omega) (by omega) w
theorem make_i32s (n : Nat) (hn : n ≤ 65536) (w : World) : (Instr.makeSlice 27 (.int .i64 (n : Int)) (.int .i64 (n : Int))).run Tryd.prog w = .ok (.slice (some ⟨w.heap.size, 0, none⟩) n n) (w.alloc (.cells (madeCells #[.int .i32 0] n) 21)) :=
  run_make_row' (P := Tryd.prog) 27 21 (.int .i32 0) 4 Tryd.underlying27 info21 rfl .i64 .i64 n (by omega) (by omega) w
theorem make_bools (n : Nat) (hn : n ≤ 65536) (w : World) : (Instr.makeSlice 25 (.int .i64 (n : Int)) (.int .i64 (n : Int))).run Tryd.prog w = .ok (.slice (some ⟨w.heap.size, 0, none⟩) n n) (w.alloc (.cells (madeCells #[.bool false] n) 4)) :=
  run_make_row' (P := Tryd.prog) 25 4 (.bool false) 1 Tryd.underlying25 info4z rfl .i64 .i64 n (by omega) (by omega) w

/-- copy into a row that was made last, of as many cells -/
theorem copy_new (dT e : TypeId) (z : Value) (t : TypeId) (w : World) (n c : Nat) (a : Addr) (cs : List Value) (hu : Tryd.prog.underlying dT = some (.slice e)) (hs : (Tryd.prog.info? e).map (·.size) = some 1)
    (hl : cs.length = n) (hsrc : ∀ j v, cs[j]? = some v → (w.alloc (.cells (madeCells #[z] n) t)).cell? (a.add j) = some v) (h1 : ∀ v ∈ cs, v.oneCell' = true) :
    (Builtin.copy_ #[dT, dT] 3 #[.slice (some ⟨w.heap.size, 0, none⟩) n n, .slice (some a) n c]).run Tryd.prog (w.alloc (.cells (madeCells #[z] n) t)) = .ok (.int .i64 (n : Int)) (w.alloc (.cells cs.toArray t)) := by
  have hz : (madeCells #[z] n).size = n := by simp [madeCells]
  have := run_copy_row (P := Tryd.prog) (w.alloc (.cells (madeCells #[z] n) t)) dT dT 3 e w.heap.size 0 n n a n c (madeCells #[z] n) t cs hu hs (blk_new w _) (by rw [hl]; exact (Nat.min_self n).symm) hsrc (by rw [hl, hz]; omega) h1
  rw [this, World.setRow_alloc_new, List.take_zero, List.nil_append, List.drop_eq_nil_of_le (by rw [Array.length_toList, hz, hl]; omega), List.append_nil, hl]
  rfl

def i64Cells (n : Nat) (I : Nat → Int) : List Value := (List.range n).map (fun k => Value.int .i64 (I k))
theorem i64Cells_len (n : Nat) (I : Nat → Int) : (i64Cells n I).length = n := by simp [i64Cells]
theorem i64Cells_one (n : Nat) (I : Nat → Int) : ∀ v ∈ i64Cells n I, v.oneCell' = true := by
  intro v hv; simp only [i64Cells, List.mem_map] at hv; obtain ⟨k, _, rfl⟩ := hv; rfl
theorem i64Cells_get {n : Nat} {I : Nat → Int} {k : Nat} (h : k < n) : (i64Cells n I)[k]? = some (.int .i64 (I k)) := by simp [i64Cells, h]
theorem i64Cells_some {n : Nat} {I : Nat → Int} {k : Nat} {v : Value} (h : (i64Cells n I)[k]? = some v) : k < n ∧ v = .int .i64 (I k) := by
  have hk : k < n := by have := (List.getElem?_eq_some_iff.1 h).1; rwa [i64Cells_len] at this
  rw [i64Cells_get hk] at h
  exact ⟨hk, by simpa using h.symm⟩
end Go.Proofs.Qxb6003964aDoor
