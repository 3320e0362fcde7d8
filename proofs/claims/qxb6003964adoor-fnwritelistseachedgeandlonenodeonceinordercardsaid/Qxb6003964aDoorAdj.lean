/-
  The adjacency as the law lays it; the text that graph.Write makes of it. No Go in sight.
-/
import Derived.Test.Qxb6003964aDoorLawF
namespace Go.Proofs.Qxb6003964aDoor
open Go.Lib (byteCells decDigits nDigits)
variable {M : Nat → Nat → Bool} {n : Nat} {I : Nat → Nat}

def adjL (M : Nat → Nat → Bool) (n i : Nat) : List Nat := (List.range i).flatMap (rowJ M n)
def offN (M : Nat → Nat → Bool) (n i : Nat) : Nat := (adjL M n i).length
def adjA (M : Nat → Nat → Bool) (n k : Nat) : Nat := (adjL M n n).getD k 0

theorem adjL_succ (i : Nat) : adjL M n (i + 1) = adjL M n i ++ rowJ M n i := by
  unfold adjL
  rw [List.range_succ, List.flatMap_append, List.flatMap_cons, List.flatMap_nil, List.append_nil]
theorem offN_succ (i : Nat) : offN M n (i + 1) = offN M n i + (rowJ M n i).length := by
  unfold offN; rw [adjL_succ, List.length_append]
theorem rowJ_len (i : Nat) : (rowJ M n i).length ≤ n := by
  have := List.length_filter_le (fun j => M i j) (List.range n)
  rwa [List.length_range] at this
theorem rowJ_lt {i j : Nat} (h : j ∈ rowJ M n i) : j < n := by
  unfold rowJ at h
  exact List.mem_range.1 (List.mem_filter.1 h).1
theorem offN_le (i : Nat) : offN M n i ≤ i * n := by
  induction i with
  | zero => simp [offN, adjL]
  | succ i ih => rw [offN_succ, Nat.add_mul, Nat.one_mul]; have := rowJ_len (M := M) (n := n) i; omega
theorem offN_mono {i k : Nat} (h : i ≤ k) : offN M n i ≤ offN M n k := by
  induction k with
  | zero => obtain rfl : i = 0 := by omega
            exact Nat.le_refl _
  | succ k ih =>
    rcases Nat.lt_or_eq_of_le h with h' | rfl
    · have := ih (by omega); rw [offN_succ]; omega
    · exact Nat.le_refl _
theorem adjL_prefix {i k : Nat} (h : i ≤ k) : ∃ t, adjL M n k = adjL M n i ++ t := by
  induction k with
  | zero => obtain rfl : i = 0 := by omega
            exact ⟨[], by simp⟩
  | succ k ih =>
    rcases Nat.lt_or_eq_of_le h with h' | rfl
    · obtain ⟨t, ht⟩ := ih (by omega)
      exact ⟨t ++ rowJ M n k, by rw [adjL_succ, ht, List.append_assoc]⟩
    · exact ⟨[], by simp⟩
theorem adjL_lt {i j : Nat} (h : j ∈ adjL M n i) : j < n := by
  unfold adjL at h
  rw [List.mem_flatMap] at h
  obtain ⟨x, _, hx⟩ := h
  exact rowJ_lt hx
theorem adjA_lt {k : Nat} (h : k < offN M n n) : adjA M n k < n := by
  unfold adjA
  rw [List.getD_eq_getElem?_getD, List.getElem?_eq_getElem h]
  exact adjL_lt (List.getElem_mem h)
theorem adjA_row {i k : Nat} (hi : i < n) (hk : k < (rowJ M n i).length) : adjA M n (offN M n i + k) = (rowJ M n i)[k] := by
  obtain ⟨t, ht⟩ := adjL_prefix (M := M) (n := n) (show i + 1 ≤ n from hi)
  unfold adjA
  rw [ht, adjL_succ, List.append_assoc, List.getD_eq_getElem?_getD, List.getElem?_append_right (by unfold offN; omega)]
  unfold offN
  rw [Nat.add_sub_cancel_left, List.getElem?_append_left hk, List.getElem?_eq_getElem hk]
  rfl
def rowLines (i : Nat) (js : List Nat) : List Ln := (js.filter (fun j => decide (i < j))).map (fun j => (i, some j))
theorem inner_eq {i : Nat} (hi : i < n) : ∀ k, k ≤ (rowJ M n i).length → innerText I (adjA M n) i (offN M n i) k = textL I (rowLines i ((rowJ M n i).take k))
  | 0, _ => by simp [innerText, rowLines, textL]
  | k + 1, h => by
    rw [innerText, inner_eq hi k (by omega), lineOf, adjA_row hi h, List.take_succ_eq_append_getElem h]
    unfold rowLines
    rw [List.filter_append, List.map_append]
    unfold textL
    rw [List.flatMap_append]
    congr 1
    by_cases hij : i < (rowJ M n i)[k]
    · rw [if_pos hij]
      simp [hij, render, bodyOf]
    · rw [if_neg hij]
      simp [hij]
theorem node_eq {i : Nat} (hi : i < n) : nodeText I (offN M n) (adjA M n) i = textL I (nodeLines M n i) := by
  unfold nodeText nodeLines
  have hs := offN_succ (M := M) (n := n) i
  by_cases h : rowJ M n i = []
  · rw [if_pos (by rw [hs, h]; simp), if_pos h]
    simp [textL, render, bodyOf]
  · have hl : (rowJ M n i).length ≠ 0 := fun e => h (List.length_eq_zero_iff.1 e)
    rw [if_neg (by omega), if_neg h, hs, Nat.add_sub_cancel_left, inner_eq hi _ (Nat.le_refl _), List.take_length]
    rfl
theorem text_eq : ∀ i, i ≤ n → textOf I (offN M n) (adjA M n) i = textL I (linesTo M n i)
  | 0, _ => by simp [textOf, textL, linesTo]
  | i + 1, h => by
    rw [textOf, text_eq i (by omega), node_eq h]
    unfold linesTo textL
    rw [List.range_succ, List.flatMap_append, List.flatMap_append, List.flatMap_cons, List.flatMap_nil, List.append_nil]
theorem text_ne (hn : 0 < n) (hirr : ∀ i, M i i = false) : textL I (linesTo M n n) ≠ [] := by
  have h0 : nodeLines M n 0 ≠ [] := by
    unfold nodeLines
    split
    · simp
    · rename_i h
      intro e
      rw [List.map_eq_nil_iff, List.filter_eq_nil_iff] at e
      obtain ⟨j, hj⟩ := List.exists_mem_of_ne_nil _ h
      have hj2 := e j hj
      have : j = 0 := by simpa using hj2
      subst this
      unfold rowJ at hj
      have := (List.mem_filter.1 hj).2
      rw [hirr 0] at this
      exact absurd this (by simp)
  intro e
  have hl : (linesTo M n n).length = 0 := by have := lines_le I (linesTo M n n); rw [e] at this; simpa using this
  obtain ⟨l, hl'⟩ := List.exists_mem_of_ne_nil _ h0
  have : l ∈ linesTo M n n := by
    unfold linesTo
    rw [List.mem_flatMap]
    exact ⟨0, List.mem_range.2 hn, hl'⟩
  rw [List.length_eq_zero_iff.1 hl] at this
  exact absurd this (by simp)
end Go.Proofs.Qxb6003964aDoor
