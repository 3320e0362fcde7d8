/-
  A row of ids that is being appended to.
-/
import Derived.Test.Qxb6003964aDoorMat
import Derived.Laws.MakeOwn
namespace Go.Proofs.Qxb6003964aDoor
open Go.ChangeShapes Go.WideShapes Go.ChangeAt Go.RowKit
open Go.Lib (byteCells decDigits nDigits)

def numCells (xs : List Nat) : List Value := xs.map (fun j : Nat => Value.int .i64 (j : Int))
theorem numCells_len (xs : List Nat) : (numCells xs).length = xs.length := by simp [numCells]
theorem numCells_append (xs ys : List Nat) : numCells (xs ++ ys) = numCells xs ++ numCells ys := by simp [numCells]

structure Nums (w : World) (av : Value) (xs : List Nat) (wr : World) : Prop where
  fr : Fr (fun _ => False) w wr
  own : wr.ownsRow w.heap.size 2 1 av xs.length (numCells xs)
  some : av ≠ .slice none 0 0
  lim : ∀ x ∈ xs, x < 9223372036854775808

variable {w wr : World} {av : Value} {xs : List Nat}
theorem Nums.shape (h : Nums w av xs wr) : ∃ g c, av = .slice (.some ⟨g, 0, none⟩) xs.length c ∧ xs.length ≤ c ∧ w.heap.size ≤ g ∧ g < wr.heap.size ∧ RowN g xs.length (fun k => xs.getD k 0) wr := by
  obtain ⟨h1, ⟨h2, h3⟩ | ⟨g, cap, cur, rfl, h4, h5, h6, h7, h8, h9⟩⟩ := h.own
  · exact absurd h2 h.some
  · refine ⟨g, cap, rfl, h6, h4, blk_lt h5, cur, h5, by omega, fun k hk => ?_, fun k hk => ?_⟩
    · have : xs.getD k 0 = xs[k] := by simp [List.getD_eq_getElem?_getD, List.getElem?_eq_getElem hk]
      show xs.getD k 0 < _
      rw [this]
      exact h.lim _ (List.getElem_mem hk)
    · have hk2 : (numCells xs)[k]? = .some (.int .i64 ((xs.getD k 0 : Nat) : Int)) := by
        unfold numCells
        rw [List.getElem?_map, List.getD_eq_getElem?_getD, List.getElem?_eq_getElem hk]
        rfl
      rw [← h9, List.getElem?_take, if_pos (by omega)] at hk2
      rw [← Array.getElem?_toList]
      exact hk2
theorem Nums.drewN (h : Nums w av xs wr) (k : Nat) : Nums w av xs (wr.drewN k) :=
  ⟨h.fr.drewN k, ((Fr.refl (fun _ => False) wr).drewN k).keepOwn h.own (fun _ _ => id), h.some, h.lim⟩
theorem nums_make (w : World) (c : Nat) (hc : c ≤ 65536) : ∃ w', (Instr.makeSlice 22 (.int .i64 0) (.int .i64 (c : Int))).run Tryd.prog w = .ok (.slice (some ⟨w.heap.size, 0, none⟩) 0 c) w' ∧ Nums w (.slice (some ⟨w.heap.size, 0, none⟩) 0 c) [] w' := by
  obtain ⟨i0, hi0, hz0, hz1, hz2⟩ := info_parts info2z
  obtain ⟨w', h1, h2, h3⟩ := run_make_own (P := Tryd.prog) w w.heap.size 22 2 i0 (.int .i64 0) 1 Tryd.underlying22 hi0 hz0 hz1 .i64 .i64 c (by rw [hz2]; omega) (by simp [maxLen]; omega) (Nat.le_refl _)
  exact ⟨w', h1, (Fr.refl _ w).grown h3 (fun k hk => by simp at hk), h2, by simp, by simp⟩

/-- append(row, x) -/
theorem wpList_appN {ops : Array Oper} {rest : List Oper} {o : Oper} {a : Act} {Q' : Exit → Act → World → Prop} (hg : o.guard = none) (s x : Operand)
    (hop : o.op = Op.call { callee := Callee.builtin Builtin.append, args := #[s, x], argTypes := #[22, 22] })
    {j : Nat} (h : Nums w av xs wr) (hj : j < 9223372036854775808) (hL : xs.length ≤ 65536) (hs : a.eval s = av) (hx : a.eval x = .slice (some ⟨wr.heap.size, 0, none⟩) 1 1)
    (hK : ∀ v' w', Nums w v' (xs ++ [j]) w' → wpList Tryd.prog ops Q' rest (a.put o.dst v') w') :
    wpList Tryd.prog ops Q' (o :: rest) a (wr.alloc (.cells #[.int .i64 (j : Int)] 2 (0, 0))) := by
  obtain ⟨i0, hi0, hz0, hz1, hz2⟩ := info_parts info2z
  have hF := (Fr.refl (fun _ => False) wr).alloc (.cells #[.int .i64 (j : Int)] 2 (0, 0))
  have ho := hF.keepOwn h.own (fun _ _ => id)
  refine wpList_append_two _ hg s x 22 hop w.heap.size 2 i0 (.int .i64 0) 8 Tryd.underlying22 hi0 hz0 hz1 hz2 rfl av xs.length (numCells xs) hs ho ⟨wr.heap.size, 0, none⟩ 1 1 [.int .i64 (j : Int)] hx rfl ?_ ?_ (by omega) (by simp [maxLen]; omega) (by omega) (by simp; have := h.fr.size; omega) ?_
  · intro k u hk
    rw [add_plain, Nat.zero_add, blk_cell (blk_new wr _)]
    simpa using hk
  · intro u hu
    simp at hu
    subst hu
    rfl
  · intro v' w' ho' hgr hN _
    have hF2 : Fr (fun k => w.heap.size ≤ k) wr w' := (hF.mono (fun _ => False.elim)).grown hgr (fun k hk _ => (h.own.lt k hk).1)
    refine hK v' w' ⟨h.fr.trans' hF2 (fun k hk hS => by omega), ?_, ?_, ?_⟩
    · rw [numCells_append, List.length_append]
      exact ho'
    · rintro rfl
      obtain ⟨h1, ⟨h2, h3⟩ | ⟨g, cap, cur, h2, _⟩⟩ := ho'
      · omega
      · exact absurd h2 (by simp)
    · intro x hx
      rw [List.mem_append, List.mem_singleton] at hx
      rcases hx with hx | rfl
      · exact h.lim x hx
      · exact hj

/-- What the dedupe loop has gathered of T before i. -/
structure Ded (T : Nat → Nat) (i : Nat) (xs : List Nat) : Prop where
  up : xs.Pairwise (· < ·)
  len : xs.length ≤ i
  nil : xs = [] → i = 0
  last : ∀ y, xs.getLast? = some y → 0 < i ∧ y = T (i - 1)
variable {T : Nat → Nat} {i s : Nat}
theorem Ded.start : Ded T 0 [] := ⟨.nil, Nat.le_refl _, fun _ => rfl, by simp⟩
theorem Ded.skip (h : Ded T i xs) (h0 : xs ≠ []) (he : T (i - 1) = T i) : Ded T (i + 1) xs :=
  ⟨h.up, Nat.le_succ_of_le h.len, fun e => absurd e h0, fun y hy => ⟨Nat.succ_pos _, ((h.last y hy).2.trans he)⟩⟩
theorem Ded.below (h : Ded T i xs) {x : Nat} (hx : x ∈ xs) : 0 < i ∧ x ≤ T (i - 1) := by
  obtain ⟨ys, y, rfl⟩ : ∃ ys y, xs = ys ++ [y] := ⟨xs.dropLast, xs.getLast (List.ne_nil_of_mem hx), (List.dropLast_concat_getLast _).symm⟩
  obtain ⟨h1, h2⟩ := h.last y (by simp)
  have := h.up
  rw [List.pairwise_append] at this
  rw [List.mem_append, List.mem_singleton] at hx
  refine ⟨h1, ?_⟩
  rcases hx with hx | rfl
  · have := this.2.2 x hx y (by simp); omega
  · omega
theorem Ded.push (h : Ded T i xs) (he : i = 0 ∨ T (i - 1) < T i) : Ded T (i + 1) (xs ++ [T i]) := by
  refine ⟨?_, by rw [List.length_append]; have := h.len; simpa using this, by simp, ?_⟩
  · rw [List.pairwise_append]
    refine ⟨h.up, by simp, fun a ha b hb => ?_⟩
    rw [List.mem_singleton] at hb
    subst hb
    have := h.below ha
    omega
  · intro y hy
    simp at hy
    exact ⟨Nat.succ_pos _, by rw [← hy]; simp⟩
theorem Ded.rise (h : Ded T i xs) : ∀ a b, a < b → b < xs.length → xs.getD a 0 < xs.getD b 0 := by
  intro a b hab hb
  rw [List.getD_eq_getElem?_getD, List.getD_eq_getElem?_getD, List.getElem?_eq_getElem (by omega), List.getElem?_eq_getElem hb]
  exact List.pairwise_iff_getElem.1 h.up a b (by omega) hb hab
theorem Ded.lastCell (h : Ded T i xs) (h0 : xs ≠ []) : xs.getD (xs.length - 1) 0 = T (i - 1) := by
  rw [List.getD_eq_getElem?_getD, ← List.getLast?_eq_getElem?]
  cases e : xs.getLast? with
  | none => exact absurd (List.getLast?_eq_none_iff.1 e) h0
  | some y => exact (h.last y e).2
end Go.Proofs.Qxb6003964aDoor
