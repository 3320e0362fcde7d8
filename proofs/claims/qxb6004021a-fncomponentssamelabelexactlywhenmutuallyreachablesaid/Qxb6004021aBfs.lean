/-
  The breadth-first search of 'reachability', in plain terms: f marks, q is the queue, h the head, j how many edges of the head are done.
-/
import Derived.Test.Qxb6004021aTarjan
namespace Go.Proofs.Qxb6004021a.Tj

theorem sumTo_le_n {h : Nat → Nat} (h1 : ∀ x, h x ≤ 1) (n : Nat) : sumTo h n ≤ n := by
  induction n with
  | zero => exact Nat.le_refl _
  | succ n ih => simp only [sumTo]; have := h1 n; omega

structure Bq (n : Nat) (g : Nat → List Nat) (s : Nat) (f : Nat → Bool) (q : List Nat) (h j : Nat) : Prop where
  mem : ∀ x, x ∈ q → x < n ∧ f x = true ∧ Reach g s x
  all : ∀ x, x < n → f x = true → x ∈ q
  src : s ∈ q
  pr : ∀ i, i < h → ∀ x, q[i]? = some x → ∀ y, y ∈ g x → f y = true
  cur : ∀ x, q[h]? = some x → ∀ i, i < j → ∀ y, (g x)[i]? = some y → f y = true
  cnt : sumTo (fun x => if f x = true then 1 else 0) n = q.length

variable {n : Nat} {g : Nat → List Nat} {s : Nat} {f : Nat → Bool} {q : List Nat} {h j : Nat}

theorem Bq.len (H : Bq n g s f q h j) : q.length ≤ n := by
  rw [← H.cnt]
  exact sumTo_le_n (fun x => by split <;> omega) n

theorem Bq.start (hs : s < n) (h0 : ∀ x, x < n → f x = false) : Bq n g s (upd f s true) [s] 0 0 := by
  refine ⟨fun x hx => ?_, fun x hx hf => ?_, by simp, fun i hi => absurd hi (by omega), fun x _ i hi => absurd hi (by omega), ?_⟩
  · obtain rfl : x = s := by simpa using hx
    exact ⟨hs, upd_same _ _ _, Reach.refl _ _⟩
  · by_cases e : x = s
    · subst e; simp
    · rw [upd_ne _ _ e, h0 x hx] at hf; cases hf
  · have h1 : sumTo (fun x => if f x = true then 1 else 0) n = 0 := by
      rw [sumTo_congr (h := fun _ => 0) (fun j hj => by simp [h0 j hj])]
      have : ∀ m, sumTo (fun _ => 0) m = 0 := fun m => by induction m with
        | zero => rfl
        | succ m ih => simp only [sumTo, ih]
      exact this n
    have h2 := sumTo_one (h := fun x => if f x = true then 1 else 0) (h' := fun x => if upd f s true x = true then 1 else 0) hs (fun j _ hj => by simp only [upd_ne _ _ hj])
    simp only [upd_same, h0 s hs, if_true] at h2
    simp only [Bool.false_eq_true, if_false] at h2
    simp only [List.length_cons, List.length_nil]
    omega

theorem Bq.skip (H : Bq n g s f q h j) {x y : Nat} (hx : q[h]? = some x) (hy : (g x)[j]? = some y) (hf : f y = true) : Bq n g s f q h (j + 1) := by
  refine ⟨H.mem, H.all, H.src, H.pr, fun x' hx' i hi y' hy' => ?_, H.cnt⟩
  rw [hx] at hx'
  cases hx'
  by_cases e : i = j
  · subst e; rw [hy] at hy'; cases hy'; exact hf
  · exact H.cur x hx i (by omega) y' hy'

theorem Bq.mark (H : Bq n g s f q h j) {x y : Nat} (hx : q[h]? = some x) (hy : (g x)[j]? = some y) (hyn : y < n) (hf : f y = false) : Bq n g s (upd f y true) (q ++ [y]) h (j + 1) := by
  have hhl : h < q.length := by
    rcases Nat.lt_or_ge h q.length with h1 | h1
    · exact h1
    · rw [List.getElem?_eq_none h1] at hx; cases hx
  have keep : ∀ z, f z = true → upd f y true z = true := fun z hz => by
    by_cases e : z = y
    · subst e; exact upd_same _ _ _
    · rw [upd_ne _ _ e]; exact hz
  have hxr := H.mem x (List.mem_of_getElem? hx)
  refine ⟨fun z hz => ?_, fun z hz hfz => ?_, by simp [H.src], fun i hi x' hx' y' hy' => ?_, fun x' hx' i hi y' hy' => ?_, ?_⟩
  · rcases List.mem_append.1 hz with hz | hz
    · obtain ⟨a, b, c⟩ := H.mem z hz
      exact ⟨a, keep z b, c⟩
    · obtain rfl : z = y := by simpa using hz
      exact ⟨hyn, upd_same _ _ _, hxr.2.2.trans (Reach.edge (List.mem_of_getElem? hy))⟩
  · by_cases e : z = y
    · subst e; simp
    · rw [upd_ne _ _ e] at hfz; simp [H.all z hz hfz]
  · rw [List.getElem?_append_left (by omega)] at hx'
    exact keep y' (H.pr i hi x' hx' y' hy')
  · rw [List.getElem?_append_left hhl, hx] at hx'
    cases hx'
    by_cases e : i = j
    · subst e; rw [hy] at hy'; cases hy'; exact upd_same _ _ _
    · exact keep y' (H.cur x hx i (by omega) y' hy')
  · have h2 := sumTo_one (h := fun x => if f x = true then 1 else 0) (h' := fun x => if upd f y true x = true then 1 else 0) hyn (fun j _ hj => by simp only [upd_ne _ _ hj])
    simp only [upd_same, hf, if_true] at h2
    simp only [Bool.false_eq_true, if_false] at h2
    have h3 := H.cnt
    rw [List.length_append]
    simp only [List.length_cons, List.length_nil]
    omega

theorem Bq.next (H : Bq n g s f q h j) {x : Nat} (hx : q[h]? = some x) (hj : (g x).length ≤ j) : Bq n g s f q (h + 1) 0 := by
  refine ⟨H.mem, H.all, H.src, fun i hi x' hx' y hy => ?_, fun x' _ i hi => absurd hi (by omega), H.cnt⟩
  by_cases e : i = h
  · subst e
    rw [hx] at hx'
    cases hx'
    obtain ⟨k, hk, rfl⟩ := List.mem_iff_getElem.1 hy
    exact H.cur x hx k (by omega) _ (List.getElem?_eq_getElem hk)
  · exact H.pr i (by omega) x' hx' y hy

theorem Bq.done (H : Bq n g s f q h j) (hh : q.length ≤ h) {x : Nat} (hx : x < n) (hg : ∀ z, z < n → ∀ y, y ∈ g z → y < n) : f x = true ↔ Reach g s x := by
  refine ⟨fun hf => (H.mem x (H.all x hx hf)).2.2, fun hr => ?_⟩
  have hs := H.mem s H.src
  refine (hr (fun z => z < n ∧ f z = true) ⟨hs.1, hs.2.1⟩ fun z y hz hy => ⟨hg z hz.1 y hy, ?_⟩).2
  obtain ⟨i, hi, e⟩ := List.mem_iff_getElem.1 (H.all z hz.1 hz.2)
  exact H.pr i (by omega) z (by rw [List.getElem?_eq_getElem hi, e]) y hy
end Go.Proofs.Qxb6004021a.Tj
