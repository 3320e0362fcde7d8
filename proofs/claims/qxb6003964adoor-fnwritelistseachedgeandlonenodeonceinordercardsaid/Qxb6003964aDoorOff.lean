/-
  The law's rows off and adj in memory.
-/
import Derived.Test.Qxb6003964aDoorAdj
namespace Go.Proofs.Qxb6003964aDoor
open Go.ChangeShapes Go.WideShapes Go.ChangeAt Go.RowKit
open Go.Lib (byteCells decDigits nDigits)

def i32Cells (xs : List Nat) : List Value := xs.map (fun j : Nat => Value.int .i32 (j : Int))
theorem i32Cells_len (xs : List Nat) : (i32Cells xs).length = xs.length := by simp [i32Cells]
theorem i32Cells_append (xs ys : List Nat) : i32Cells (xs ++ ys) = i32Cells xs ++ i32Cells ys := by simp [i32Cells]

structure OffAdj (n : Nat) (M : Nat → Nat → Bool) (w : World) (i : Nat) (av : Value) (xs : List Nat) (wr : World) : Prop where
  fr : Fr (fun _ => False) w wr
  off : ∃ cur, wr.heap[w.heap.size]? = some (.cells cur 3 (0, 0)) ∧ cur.size = n + 1 ∧ ∀ k, k ≤ i → cur[k]? = some (.int .i64 (offN M n k : Int))
  adj : wr.ownsRow (w.heap.size + 1) 21 1 av xs.length (i32Cells xs)
  sz : w.heap.size + 1 ≤ wr.heap.size
  some : av ≠ .slice none 0 0

variable {n : Nat} {M : Nat → Nat → Bool} {w wr : World} {i : Nat} {av : Value} {xs : List Nat}
theorem OffAdj.shape (h : OffAdj n M w i av xs wr) : ∃ g c, av = .slice (.some ⟨g, 0, none⟩) xs.length c ∧ xs.length ≤ c ∧ w.heap.size + 1 ≤ g ∧ g < wr.heap.size ∧ ∀ k v, (i32Cells xs)[k]? = .some v → wr.cell? ⟨g, k, none⟩ = .some v := by
  obtain ⟨h1, ⟨h2, h3⟩ | ⟨g, cap, cur, rfl, h4, h5, h6, h7, h8, h9⟩⟩ := h.adj
  · exact absurd h2 h.some
  · refine ⟨g, cap, rfl, h6, h4, blk_lt h5, fun k v hk => ?_⟩
    have hkl : k < xs.length := by have := (List.getElem?_eq_some_iff.1 hk).1; rwa [i32Cells_len] at this
    rw [blk_cell h5, ← Array.getElem?_toList]
    rw [← h9, List.getElem?_take, if_pos (by omega)] at hk
    exact hk

/-- off[i+1] = len(adj) -/
theorem OffAdj.store (hin : i < n) (h : OffAdj n M w i av (adjL M n i ++ rowJ M n i) wr) : OffAdj n M w (i + 1) av (adjL M n (i + 1)) (wr.setCell ⟨w.heap.size, i + 1, none⟩ (.int .i64 ((adjL M n i ++ rowJ M n i).length : Int))) := by
  obtain ⟨cur, h1, h2, h3⟩ := h.off
  refine ⟨h.fr.setCell _ _ (fun hp => absurd hp (Nat.lt_irrefl _)), ⟨_, blk_set h1 _ _, by rw [Array.size_setIfInBounds]; exact h2, fun k hk => ?_⟩, ?_, by rw [size_set]; exact h.sz, h.some⟩
  · by_cases e : k = i + 1
    · subst e
      rw [Array.getElem?_setIfInBounds_self_of_lt (by omega), offN, adjL_succ]
    · rw [Array.getElem?_setIfInBounds_ne (by omega)]
      exact h3 k (by omega)
  · rw [adjL_succ]
    exact ownsRow_setCell_below h.adj (Nat.lt_succ_self _) _

theorem info21 : (Tryd.prog.info? 21).map (fun i => (i.zero, i.size, i.bytes)) = some (some (.int .i32 0), 1, 4) := by kernel_rfl
/-- adj = append(adj, j) -/
theorem wpList_appJ {ops : Array Oper} {rest : List Oper} {o : Oper} {a : Act} {Q' : Exit → Act → World → Prop} (hg : o.guard = none) (s x : Operand)
    (hop : o.op = Op.call { callee := Callee.builtin Builtin.append, args := #[s, x], argTypes := #[27, 27] })
    {j : Nat} (h : OffAdj n M w i av xs wr) (hL : xs.length ≤ 65536) (hs : a.eval s = av) (hx : a.eval x = .slice (some ⟨wr.heap.size, 0, none⟩) 1 1)
    (hK : ∀ v' w', OffAdj n M w i v' (xs ++ [j]) w' → wpList Tryd.prog ops Q' rest (a.put o.dst v') w') :
    wpList Tryd.prog ops Q' (o :: rest) a (wr.alloc (.cells #[.int .i32 (j : Int)] 21 (0, 0))) := by
  obtain ⟨i0, hi0, hz0, hz1, hz2⟩ := info_parts info21
  have hF := (Fr.refl (fun _ => False) wr).alloc (.cells #[.int .i32 (j : Int)] 21 (0, 0))
  have ho := hF.keepOwn h.adj (fun _ _ => id)
  refine wpList_append_two _ hg s x 27 hop (w.heap.size + 1) 21 i0 (.int .i32 0) 4 Tryd.underlying27 hi0 hz0 hz1 hz2 rfl av xs.length (i32Cells xs) hs ho ⟨wr.heap.size, 0, none⟩ 1 1 [.int .i32 (j : Int)] hx rfl ?_ ?_ (by omega) (by simp [maxLen]; omega) (by omega) (by simp; have := h.sz; omega) ?_
  · intro k u hk
    rw [add_plain, Nat.zero_add, blk_cell (blk_new wr _)]
    simpa using hk
  · intro u hu
    simp at hu
    subst hu
    rfl
  · intro v' w' ho' hgr hN _
    obtain ⟨cur, q1, q2, q3⟩ := h.off
    have hF2 : Fr (fun k => w.heap.size + 1 ≤ k) wr w' := (hF.mono (fun _ => False.elim)).grown hgr (fun k hk _ => (h.adj.lt k hk).1)
    refine hK v' w' ⟨h.fr.trans' hF2 (fun k hk hS => by omega), ⟨cur, hF2.keepBlk q1 (by omega), q2, q3⟩, ?_, Nat.le_trans h.sz hF2.size, ?_⟩
    · rw [i32Cells_append, List.length_append]
      exact ho'
    · rintro rfl
      obtain ⟨h1, ⟨h2, h3⟩ | ⟨g, cap, cur, h2, _⟩⟩ := ho'
      · omega
      · exact absurd h2 (by simp)
end Go.Proofs.Qxb6003964aDoor
