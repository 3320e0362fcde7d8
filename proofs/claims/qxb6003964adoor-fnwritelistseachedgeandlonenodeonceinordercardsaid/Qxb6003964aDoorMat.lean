/-
  The law's matrix, sorted row and nodes in memory.
-/
import Derived.Test.Qxb6003964aDoorCp
namespace Go.Proofs.Qxb6003964aDoor
open Go.ChangeShapes Go.WideShapes Go.ChangeAt Go.RowKit
open Go.Lib (byteCells decDigits nDigits)

/-- The matrix, of no diagonal, in block g. -/
def MatAt (n g : Nat) (w : World) : Prop :=
  ∃ cur : Array Value, w.heap[g]? = some (.cells cur 4 (0, 0)) ∧ cur.size = n * n ∧ ∃ M : Nat → Nat → Bool, (∀ i, M i i = false) ∧ ∀ i j, i < n → j < n → cur[i * n + j]? = some (.bool (M i j))
variable {n g : Nat} {w wr : World}
theorem mat_idx {i j a b : Nat} (hj : j < n) (hb : b < n) (h : i * n + j = a * n + b) : i = a ∧ j = b := by
  have h1 : (i * n + j) / n = i := by rw [Nat.mul_comm, Nat.mul_add_div (by omega), Nat.div_eq_of_lt hj, Nat.add_zero]
  have h2 : (a * n + b) / n = a := by rw [Nat.mul_comm, Nat.mul_add_div (by omega), Nat.div_eq_of_lt hb, Nat.add_zero]
  have h3 : i = a := by rw [← h1, ← h2, h]
  subst h3
  exact ⟨rfl, by omega⟩
theorem mat_lt {a b : Nat} (ha : a < n) (hb : b < n) : a * n + b < n * n := by
  have : (a + 1) * n ≤ n * n := Nat.mul_le_mul_right n ha
  rw [Nat.add_mul, Nat.one_mul] at this
  omega
theorem MatAt.new (n : Nat) (w : World) : MatAt n w.heap.size (w.alloc (.cells (madeCells #[.bool false] (n * n)) 4)) := by
  refine ⟨_, blk_new w _, by simp [madeCells], fun _ _ => false, fun _ => rfl, fun i j hi hj => ?_⟩
  have := mat_lt hi hj
  have hm : (i * n + j) % 1 = 0 := Nat.mod_one _
  simp [madeCells, this, hm]
theorem MatAt.cell {a b : Nat} (h : MatAt n g w) (ha : a < n) (hb : b < n) : ∃ x, w.cell? ⟨g, a * n + b, none⟩ = some (.bool x) := by
  obtain ⟨cur, h1, h2, M, h3, h4⟩ := h
  exact ⟨_, (blk_cell h1 _).trans (h4 a b ha hb)⟩
theorem MatAt.free (h : MatAt n g w) (k : Nat) : w.frozen? ⟨g, k, none⟩ = false := by
  obtain ⟨cur, h1, _⟩ := h
  exact blk_free h1 k
theorem MatAt.set {a b : Nat} (h : MatAt n g w) (ha : a < n) (hb : b < n) (hab : a ≠ b) : MatAt n g (w.setCell ⟨g, a * n + b, none⟩ (.bool true)) := by
  obtain ⟨cur, h1, h2, M, h3, h4⟩ := h
  refine ⟨_, blk_set h1 _ _, by rw [Array.size_setIfInBounds]; exact h2, fun i j => if i = a ∧ j = b then true else M i j, fun i => ?_, fun i j hi hj => ?_⟩
  · show (if i = a ∧ i = b then true else M i i) = false
    rw [if_neg (by omega), h3]
  · show _ = some (Value.bool (if i = a ∧ j = b then true else M i j))
    by_cases e : i = a ∧ j = b
    · obtain ⟨rfl, rfl⟩ := e
      rw [if_pos ⟨rfl, rfl⟩, Array.getElem?_setIfInBounds_self_of_lt (by rw [h2]; exact mat_lt ha hb)]
    · rw [if_neg e, Array.getElem?_setIfInBounds_ne (fun h => e (mat_idx hj hb h.symm))]
      exact h4 i j hi hj

/-- A row of s numbers in block g. -/
def RowN (g s : Nat) (T : Nat → Nat) (w : World) : Prop :=
  ∃ cur : Array Value, w.heap[g]? = some (.cells cur 2 (0, 0)) ∧ s ≤ cur.size ∧ (∀ k, k < s → T k < 9223372036854775808) ∧ ∀ k, k < s → cur[k]? = some (.int .i64 (T k : Int))
variable {s : Nat} {T : Nat → Nat}
theorem RowN.cell (h : RowN g s T w) {k : Nat} (hk : k < s) : w.cell? ⟨g, k, none⟩ = some (.int .i64 (T k : Int)) := by
  obtain ⟨cur, h1, _, _, h4⟩ := h
  exact (blk_cell h1 _).trans (h4 k hk)
theorem RowN.free (h : RowN g s T w) (k : Nat) : w.frozen? ⟨g, k, none⟩ = false := by
  obtain ⟨cur, h1, _⟩ := h
  exact blk_free h1 k
theorem RowN.lim (h : RowN g s T w) {k : Nat} (hk : k < s) : T k < 9223372036854775808 := by
  obtain ⟨cur, h1, _, h3, _⟩ := h
  exact h3 k hk
theorem RowN.lt (h : RowN g s T w) : g < w.heap.size := by
  obtain ⟨cur, h1, _⟩ := h
  exact blk_lt h1
def upd (T : Nat → Nat) (j x : Nat) : Nat → Nat := fun k => if k = j then x else T k
theorem RowN.set (h : RowN g s T w) {j x : Nat} (hj : j < s) (hx : x < 9223372036854775808) : RowN g s (upd T j x) (w.setCell ⟨g, j, none⟩ (.int .i64 (x : Int))) := by
  obtain ⟨cur, h1, h2, h3, h4⟩ := h
  refine ⟨_, blk_set h1 _ _, by rw [Array.size_setIfInBounds]; exact h2, fun k hk => ?_, fun k hk => ?_⟩
  · unfold upd; split
    · exact hx
    · exact h3 k hk
  · unfold upd
    by_cases e : k = j
    · subst e
      rw [if_pos rfl, Array.getElem?_setIfInBounds_self_of_lt (by omega)]
    · rw [if_neg e, Array.getElem?_setIfInBounds_ne (fun h => e h.symm)]
      exact h4 k hk
theorem RowN.keep {S : Nat → Prop} (h : RowN g s T w) (hF : Fr S w wr) (hn : ¬ S g) : RowN g s T wr := by
  obtain ⟨cur, h1, h2, h3, h4⟩ := h
  exact ⟨cur, hF.keepBlk h1 hn, h2, h3, h4⟩

/-- Sorted before i. -/
def Srt (T : Nat → Nat) (i : Nat) : Prop := ∀ a b, a < b → b < i → T a ≤ T b
/-- The inner loop: a hole at j, the rest up to i sorted, what stands behind the hole greater than x. -/
def Hole (T : Nat → Nat) (i j x : Nat) : Prop := (∀ a b, a < b → b ≤ i → a ≠ j → b ≠ j → T a ≤ T b) ∧ ∀ b, j < b → b ≤ i → x ≤ T b
theorem Hole.start {i : Nat} (h : Srt T i) : Hole T i i (T i) := ⟨fun a b hab hb _ hbi => h a b hab (by omega), fun b h1 h2 => by omega⟩
theorem Hole.step {i j x : Nat} (h : Hole T i j x) (hj : 0 < j) (hx : x < T (j - 1)) : Hole (upd T j (T (j - 1))) i (j - 1) x := by
  refine ⟨fun a b hab hb ha hb' => ?_, fun b h1 h2 => ?_⟩
  · unfold upd
    by_cases e1 : a = j
    · rw [if_pos e1, if_neg (by omega)]
      exact h.1 (j - 1) b (by omega) hb (by omega) (by omega)
    · rw [if_neg e1]
      by_cases e2 : b = j
      · rw [if_pos e2]
        exact h.1 a (j - 1) (by omega) (by omega) (by omega) (by omega)
      · rw [if_neg e2]
        exact h.1 a b hab hb e1 e2
  · unfold upd
    by_cases e : b = j
    · rw [if_pos e]; omega
    · rw [if_neg e]; exact h.2 b (by omega) h2
theorem Hole.stop {i j x : Nat} (h : Hole T i j x) (hx : j = 0 ∨ T (j - 1) ≤ x) : Srt (upd T j x) (i + 1) := by
  intro a b hab hb
  unfold upd
  by_cases e1 : a = j
  · rw [if_pos e1, if_neg (by omega)]
    exact h.2 b (by omega) (by omega)
  · rw [if_neg e1]
    by_cases e2 : b = j
    · rw [if_pos e2]
      rcases hx with hx | hx
      · omega
      · by_cases e3 : a = j - 1
        · rw [e3]; exact hx
        · exact Nat.le_trans (h.1 a (j - 1) (by omega) (by omega) (by omega) (by omega)) hx
    · rw [if_neg e2]
      exact h.1 a b hab (by omega) e1 e2
end Go.Proofs.Qxb6003964aDoor
