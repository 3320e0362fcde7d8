/-
  A law's end, whatever its parameters: it returned true and below the heap's old size nothing has turned ('Below'): the row's 'post' holds.
-/
import Derived.Test.Qxb6003964aDoorRows
import Derived.WalkKit
import Derived.ProofKit
namespace Go.Proofs.Qxb6003964aDoor
open Go.ChangeShapes Go.WideShapes Go.ChangeAt Go.RowKit

theorem Tryd.laidOut : laidOutB Tryd.prog = true := by kernel_rfl
theorem Tryd.own : ownKnob Tryd.prog.godebug = none := by kernel_rfl

/-- The arguments read behind the call as before it. -/
theorem trodAll_below {H : Type} {enc : TypeId × Value → H} {P : Program} (hl : laidOutB P = true) {W W' : World} (hb : Below W.heap.size W W') :
    ∀ (ts : List TypeId) (vs : List Value) (ds : List (DataW H)) (ps : List MemPlace), (∀ t ∈ ts, P.readableRec t = true ∧ t < P.types.size) →
      DataW.TrodAll enc P W 0 (fun _ => true) true ts vs ds ps → (∀ x ∈ ps, x.block < W.heap.size) →
      DataW.TrodAll enc P W' 0 (fun b => decide (b < W.heap.size)) true ts vs ds ps
  | [], vs, ds, ps, _, h, _ => by
    obtain ⟨rfl, rfl, rfl⟩ := trodAll_nil h
    exact rfl
  | t :: ts, vs, ds, ps, hr, h, hlt => by
    obtain ⟨v, vs', d, ds', p, q, rfl, rfl, rfl, h1, h2⟩ := trodAll_cons h
    exact ⟨p, q, Below.trod hl (hr t (by simp)).1 (hr t (by simp)).2 h1 hb (fun x hx => hlt x (by simp [hx])),
      trodAll_below hl hb ts vs' ds' q (fun t' ht' => hr t' (by simp [ht'])) h2 (fun x hx => hlt x (by simp [hx])), rfl⟩

theorem law_post {H : Type} {enc : TypeId × Value → H} {P : Program} {f : Func} {s : ChangeSpec} {W W' : World} {args : Array Value} {ds : List (DataW H)} {before : List MemPlace} {tb : TypeId}
    (hl : laidOutB P = true) (hr : ∀ t ∈ f.params.toList, P.readableRec t = true ∧ t < P.types.size) (hvs : s.vars = []) (hrt : f.resultTypes = #[tb]) (htb : P.underlying tb = some .bool)
    (hfn : s.fn H (ds ++ []) = { results := [.lit (.bool true)], args := ds })
    (hW : DataW.Whole enc P f.params.toList s.vars false W args.toList ds [] before) (hb : Below W.heap.size W W') :
    s.post enc P f false true false false W args (.bool true) W' := by
  have hW' := hW
  obtain ⟨p, q, hA, hV, rfl, hfz, hnd⟩ := hW
  rw [hvs] at hV
  obtain rfl : q = [] := hV
  have hlt : ∀ x ∈ p, x.block < W.heap.size := fun x hx => by have := hW'.lt x (by simp [hx]); simpa using this
  refine ⟨ds, [], p ++ [], [], p, [], hW', ?_, ?_, ?_, hb.frame _, fun h => by cases h⟩
  · rw [hfn, hrt]
    exact trodAll_mk1 (shut_bool htb true)
  · rw [hfn]
    exact trodAll_below hl hb _ _ _ _ hr hA hlt
  · rw [hfn, hvs]
    exact rfl
/-! ### Blocks: what a world's block says of its cells; what a store and a new block do to the blocks -/
theorem blk_cell {w : World} {b : Nat} {cur : Array Value} {t : TypeId} {fr : Nat × Nat} (h : w.heap[b]? = some (.cells cur t fr)) (j : Nat) : w.cell? ⟨b, j, none⟩ = cur[j]? := by
  simp [World.cell?, h]
theorem blk_free {w : World} {b : Nat} {cur : Array Value} {t : TypeId} (h : w.heap[b]? = some (.cells cur t (0, 0))) (j : Nat) : w.frozen? ⟨b, j, none⟩ = false := by
  simp [World.frozen?, h]
theorem blk_set {w : World} {b : Nat} {cur : Array Value} {t : TypeId} {fr : Nat × Nat} (h : w.heap[b]? = some (.cells cur t fr)) (j : Nat) (v : Value) :
    (w.setCell ⟨b, j, none⟩ v).heap[b]? = some (.cells (cur.setIfInBounds j v) t fr) := by
  simp [World.setCell, Array.getElem?_modify, h]
theorem blk_set_ne {w : World} {b b' : Nat} (hne : b ≠ b') (j : Nat) (v : Value) : (w.setCell ⟨b', j, none⟩ v).heap[b]? = w.heap[b]? :=
  Below.heap_setCell w ⟨b', j, none⟩ v b hne
theorem blk_new (w : World) (o : Obj) : (w.alloc o).heap[w.heap.size]? = some o := by
  show (w.heap.push o)[w.heap.size]? = _
  simp
theorem blk_old {w : World} {o : Obj} {b : Nat} {x : Obj} (h : w.heap[b]? = some x) : (w.alloc o).heap[b]? = some x := by
  have hb : b < w.heap.size := by
    rw [Array.getElem?_eq_some_iff] at h; exact h.1
  rw [Below.heap_alloc w o b hb]; exact h
theorem blk_lt {w : World} {b : Nat} {x : Obj} (h : w.heap[b]? = some x) : b < w.heap.size := by
  rw [Array.getElem?_eq_some_iff] at h; exact h.1
theorem size_set (w : World) (a : Addr) (v : Value) : (w.setCell a v).heap.size = w.heap.size := by simp [World.setCell]
end Go.Proofs.Qxb6003964aDoor
