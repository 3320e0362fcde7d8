import Derived.Test.Qxb6003852aLawPost
namespace Go.Proofs.Qxb6003852a
open Go.ChangeShapes Go.WideShapes Go.ChangeAt Go.RowKit

/-! ### Blocks: what a world's block says of its cells; what a store and a new block do to the blocks -/
theorem blk_cell {w : World} {b : Nat} {cur : Array Value} {t : TypeId} {fr : Nat × Nat} (h : w.heap[b]? = some (.cells cur t fr)) (j : Nat) : w.cell? ⟨b, j, none⟩ = cur[j]? := by
  simp [World.cell?, h]
theorem blk_free {w : World} {b : Nat} {cur : Array Value} {t : TypeId} (h : w.heap[b]? = some (.cells cur t (0, 0))) (j : Nat) : w.frozen? ⟨b, j, none⟩ = false := by
  simp [World.frozen?, h]
theorem blk_set {w : World} {b : Nat} {cur : Array Value} {t : TypeId} {fr : Nat × Nat} (h : w.heap[b]? = some (.cells cur t fr)) (j : Nat) (v : Value) :
    (w.setCell ⟨b, j, none⟩ v).heap[b]? = some (.cells (cur.setIfInBounds j v) t fr) := by
  simp [World.setCell, Array.getElem?_modify, h]
theorem blk_set_ne {w : World} {b b' : Nat} (hne : b ≠ b') (j : Nat) (v : Value) : (w.setCell ⟨b', j, none⟩ v).heap[b]? = w.heap[b]? :=
  Below.heap_setCell w ⟨b', j, none⟩ v b hne
theorem blk_new (w : World) (o : Obj) : (w.alloc o).heap[w.heap.size]? = some o := by
  show (w.heap.push o)[w.heap.size]? = _
  simp
theorem blk_old {w : World} {o : Obj} {b : Nat} {x : Obj} (h : w.heap[b]? = some x) : (w.alloc o).heap[b]? = some x := by
  have hb : b < w.heap.size := by
    rw [Array.getElem?_eq_some_iff] at h; exact h.1
  rw [Below.heap_alloc w o b hb]; exact h
theorem blk_lt {w : World} {b : Nat} {x : Obj} (h : w.heap[b]? = some x) : b < w.heap.size := by
  rw [Array.getElem?_eq_some_iff] at h; exact h.1
theorem size_set (w : World) (a : Addr) (v : Value) : (w.setCell a v).heap.size = w.heap.size := by simp [World.setCell]
end Go.Proofs.Qxb6003852a
