/-
  A law's end, whatever its parameters: it returned true and below the heap's old size nothing has turned ('Below'): the row's 'post' holds.
-/
import Derived.Test.Qxb6003852aRows
import Derived.WalkKit
import Derived.ProofKit
namespace Go.Proofs.Qxb6003852a
open Go.ChangeShapes Go.WideShapes Go.ChangeAt Go.RowKit

theorem Try.laidOut : laidOutB Try.prog = true := by kernel_rfl
theorem Try.own : ownKnob Try.prog.godebug = none := by kernel_rfl

/-- The arguments read behind the call as before it. -/
theorem trodAll_below {H : Type} {enc : TypeId × Value → H} {P : Program} (hl : laidOutB P = true) {W W' : World} (hb : Below W.heap.size W W') :
    ∀ (ts : List TypeId) (vs : List Value) (ds : List (DataW H)) (ps : List MemPlace), (∀ t ∈ ts, P.readableRec t = true ∧ t < P.types.size) →
      DataW.TrodAll enc P W 0 (fun _ => true) true ts vs ds ps → (∀ x ∈ ps, x.block < W.heap.size) →
      DataW.TrodAll enc P W' 0 (fun b => decide (b < W.heap.size)) true ts vs ds ps
  | [], vs, ds, ps, _, h, _ => by
    obtain ⟨rfl, rfl, rfl⟩ := trodAll_nil h
    exact rfl
  | t :: ts, vs, ds, ps, hr, h, hlt => by
    obtain ⟨v, vs', d, ds', p, q, rfl, rfl, rfl, h1, h2⟩ := trodAll_cons h
    exact ⟨p, q, Below.trod hl (hr t (by simp)).1 (hr t (by simp)).2 h1 hb (fun x hx => hlt x (by simp [hx])),
      trodAll_below hl hb ts vs' ds' q (fun t' ht' => hr t' (by simp [ht'])) h2 (fun x hx => hlt x (by simp [hx])), rfl⟩

theorem law_post {H : Type} {enc : TypeId × Value → H} {P : Program} {f : Func} {s : ChangeSpec} {W W' : World} {args : Array Value} {ds : List (DataW H)} {before : List MemPlace} {tb : TypeId}
    (hl : laidOutB P = true) (hr : ∀ t ∈ f.params.toList, P.readableRec t = true ∧ t < P.types.size) (hvs : s.vars = []) (hrt : f.resultTypes = #[tb]) (htb : P.underlying tb = some .bool)
    (hfn : s.fn H (ds ++ []) = { results := [.lit (.bool true)], args := ds })
    (hW : DataW.Whole enc P f.params.toList s.vars false W args.toList ds [] before) (hb : Below W.heap.size W W') :
    s.post enc P f false true false false W args (.bool true) W' := by
  have hW' := hW
  obtain ⟨p, q, hA, hV, rfl, hfz, hnd⟩ := hW
  rw [hvs] at hV
  obtain rfl : q = [] := hV
  have hlt : ∀ x ∈ p, x.block < W.heap.size := fun x hx => by have := hW'.lt x (by simp [hx]); simpa using this
  refine ⟨ds, [], p ++ [], [], p, [], hW', ?_, ?_, ?_, hb.frame _, fun h => by cases h⟩
  · rw [hfn, hrt]
    exact trodAll_mk1 (shut_bool htb true)
  · rw [hfn]
    exact trodAll_below hl hb _ _ _ _ hr hA hlt
  · rw [hfn, hvs]
    exact rfl
end Go.Proofs.Qxb6003852a
