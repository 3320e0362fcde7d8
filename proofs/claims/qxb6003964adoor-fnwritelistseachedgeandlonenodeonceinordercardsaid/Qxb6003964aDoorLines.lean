/-
  The lines of an edge list, with no Go in sight.
-/
import Derived.Test.Qxb6003964aDoorWr
import Derived.Test.Qxb6003964aDoorPline
namespace Go.Proofs.Qxb6003964aDoor
open Go.Lib (byteCells decDigits nDigits)

abbrev Ln := Nat × Option Nat
def rowJ (M : Nat → Nat → Bool) (n i : Nat) : List Nat := (List.range n).filter (fun j => M i j)
def nodeLines (M : Nat → Nat → Bool) (n i : Nat) : List Ln := if rowJ M n i = [] then [(i, none)] else ((rowJ M n i).filter (fun j => decide (i < j))).map (fun j => (i, some j))
def linesTo (M : Nat → Nat → Bool) (n k : Nat) : List Ln := (List.range k).flatMap (nodeLines M n)
def bodyOf (I : Nat → Nat) : Ln → List UInt8
  | (i, none) => decDigits (I i)
  | (i, some j) => decDigits (I i) ++ 32 :: decDigits (I j)
def render (I : Nat → Nat) (l : Ln) : List UInt8 := bodyOf I l ++ [10]
def textL (I : Nat → Nat) (ls : List Ln) : List UInt8 := ls.flatMap (render I)

def Asc (l l' : Ln) : Prop := l.1 < l'.1 ∨ (l.1 = l'.1 ∧ ∃ j j', l.2 = some j ∧ l'.2 = some j' ∧ j < j')
def GoodL (M : Nat → Nat → Bool) (n : Nat) (l : Ln) : Prop := l.1 < n ∧ ((l.2 = none ∧ ∀ j, j < n → M l.1 j = false) ∨ ∃ j, l.2 = some j ∧ j < n ∧ l.1 < j ∧ M l.1 j = true)

variable {M : Nat → Nat → Bool} {n : Nat} {I : Nat → Nat}
theorem nodeLines_fst {i : Nat} {l : Ln} (h : l ∈ nodeLines M n i) : l.1 = i := by
  unfold nodeLines at h
  split at h
  · simp at h; rw [h]
  · simp at h; obtain ⟨j, _, rfl⟩ := h; rfl
theorem nodeLines_good {i : Nat} (hi : i < n) {l : Ln} (h : l ∈ nodeLines M n i) : GoodL M n l := by
  have h1 := nodeLines_fst h
  refine ⟨by omega, ?_⟩
  unfold nodeLines at h
  split at h
  · rename_i he
    simp at h
    subst h
    refine .inl ⟨rfl, fun j hj => ?_⟩
    unfold rowJ at he
    rw [List.filter_eq_nil_iff] at he
    have := he j (List.mem_range.2 hj)
    simpa using this
  · simp [rowJ] at h
    obtain ⟨j, ⟨h2, h3, h4⟩, rfl⟩ := h
    exact .inr ⟨j, rfl, h2, h3, h4⟩
theorem lines_good {k : Nat} (hk : k ≤ n) {l : Ln} (h : l ∈ linesTo M n k) : GoodL M n l := by
  unfold linesTo at h
  rw [List.mem_flatMap] at h
  obtain ⟨i, hi, h⟩ := h
  exact nodeLines_good (by have := List.mem_range.1 hi; omega) h
theorem pw_mono {α : Type} {R S : α → α → Prop} {l : List α} (H : ∀ {a b : α}, R a b → S a b) (h : l.Pairwise R) : l.Pairwise S := by
  rw [List.pairwise_iff_getElem] at h ⊢
  exact fun i j hi hj hij => H (h i j hi hj hij)
theorem nodeLines_asc (i : Nat) : (nodeLines M n i).Pairwise Asc := by
  unfold nodeLines
  split
  · simp
  · rw [List.pairwise_map]
    refine pw_mono ?_ ((List.pairwise_lt_range.filter _).filter _)
    intro a b hab
    exact .inr ⟨rfl, a, b, rfl, rfl, hab⟩
theorem lines_asc (k : Nat) : (linesTo M n k).Pairwise Asc := by
  unfold linesTo
  rw [List.pairwise_flatMap]
  refine ⟨fun i _ => nodeLines_asc i, pw_mono ?_ List.pairwise_lt_range⟩
  intro a b hab x hx y hy
  left
  rw [nodeLines_fst hx, nodeLines_fst hy]
  exact hab
theorem lines_next {k r : Nat} {l l' : Ln} (h : (linesTo M n k)[r]? = some l) (h' : (linesTo M n k)[r + 1]? = some l') : Asc l l' := by
  obtain ⟨h1, rfl⟩ := List.getElem?_eq_some_iff.1 h
  obtain ⟨h2, rfl⟩ := List.getElem?_eq_some_iff.1 h'
  exact List.pairwise_iff_getElem.1 (lines_asc k) r (r + 1) h1 h2 (by omega)

theorem textL_take {ls : List Ln} {r : Nat} {l : Ln} (h : ls[r]? = some l) : textL I ls = textL I (ls.take r) ++ (bodyOf I l ++ 10 :: textL I (ls.drop (r + 1))) := by
  obtain ⟨h1, rfl⟩ := List.getElem?_eq_some_iff.1 h
  have e : ls = ls.take r ++ ls[r] :: ls.drop (r + 1) := by rw [← List.drop_eq_getElem_cons h1, List.take_append_drop]
  have e2 := congrArg (List.flatMap (render I)) e
  rw [List.flatMap_append, List.flatMap_cons] at e2
  unfold textL
  rw [e2]
  simp only [render, List.append_assoc, List.singleton_append]
theorem textL_succ {ls : List Ln} {r : Nat} {l : Ln} (h : ls[r]? = some l) : (textL I (ls.take (r + 1))).length = (textL I (ls.take r)).length + (bodyOf I l).length + 1 := by
  obtain ⟨h1, rfl⟩ := List.getElem?_eq_some_iff.1 h
  rw [List.take_succ_eq_append_getElem h1]
  unfold textL
  rw [List.flatMap_append, List.length_append, List.flatMap_cons, List.flatMap_nil, List.append_nil, render, List.length_append]
  simp only [List.length_singleton]
  omega
theorem bodyOf_pos (l : Ln) : 0 < (bodyOf I l).length := by
  obtain ⟨i, _ | j⟩ := l
  · exact dec_pos _
  · simp [bodyOf]; omega
end Go.Proofs.Qxb6003964aDoor
