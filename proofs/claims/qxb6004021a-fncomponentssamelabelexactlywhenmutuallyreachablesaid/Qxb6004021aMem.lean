/-
  How a state of Tarjan's algorithm lies in memory while 'components' runs, and what each store does to it.
-/
import Derived.Test.Qxb6004021aLawPost
import Derived.Test.Qxb6004021aTarjan
import Derived.WalkSmall
import Derived.Deep.Draws
namespace Go.Proofs.Qxb6004021a
open Go.ChangeShapes Go.WideShapes Go.ChangeAt Go.RowKit
open Tj (upd St)

/-- Block b is a row of n cells of type t, none frozen, cell i holding 'f i'. -/
def RowIs (w : World) (b : Nat) (t : TypeId) (n : Nat) (f : Nat → Value) : Prop := ∃ cur, w.heap[b]? = some (.cells cur t (0, 0)) ∧ cur.size = n ∧ ∀ i, i < n → cur[i]? = some (f i)

theorem RowIs.cell {w : World} {b : Nat} {t : TypeId} {n : Nat} {f : Nat → Value} (h : RowIs w b t n f) {i : Nat} (hi : i < n) : w.cell? ⟨b, i, none⟩ = some (f i) := by
  obtain ⟨cur, h1, _, h3⟩ := h
  rw [blk_cell h1, h3 i hi]
theorem RowIs.free {w : World} {b : Nat} {t : TypeId} {n : Nat} {f : Nat → Value} (h : RowIs w b t n f) (i : Nat) : w.frozen? ⟨b, i, none⟩ = false := by
  obtain ⟨cur, h1, _, _⟩ := h
  exact blk_free h1 i
theorem RowIs.keep {w w' : World} {b : Nat} {t : TypeId} {n : Nat} {f : Nat → Value} (h : RowIs w b t n f) (e : w'.heap[b]? = w.heap[b]?) : RowIs w' b t n f := by
  obtain ⟨cur, h1, h2, h3⟩ := h
  exact ⟨cur, e.trans h1, h2, h3⟩
theorem RowIs.congr {w : World} {b : Nat} {t : TypeId} {n : Nat} {f f' : Nat → Value} (h : RowIs w b t n f) (e : ∀ i, i < n → f' i = f i) : RowIs w b t n f' := by
  obtain ⟨cur, h1, h2, h3⟩ := h
  exact ⟨cur, h1, h2, fun i hi => by rw [e i hi]; exact h3 i hi⟩
theorem RowIs.set {w : World} {b : Nat} {t : TypeId} {n : Nat} {f : Nat → Value} (h : RowIs w b t n f) (i : Nat) (v : Value) : RowIs (w.setCell ⟨b, i, none⟩ v) b t n (upd f i v) := by
  obtain ⟨cur, h1, h2, h3⟩ := h
  refine ⟨_, blk_set h1 i v, by simpa using h2, fun j hj => ?_⟩
  rw [Array.getElem?_setIfInBounds]
  by_cases e : i = j
  · subst e; rw [if_pos rfl, Tj.upd_same, if_pos (by omega)]
  · rw [if_neg e, Tj.upd_ne _ _ (fun e' => e e'.symm)]; exact h3 j hj
theorem RowIs.made (w : World) (z : Value) (t : TypeId) (n : Nat) : RowIs (w.alloc (.cells (madeCells #[z] n) t)) w.heap.size t n (fun _ => z) := by
  refine ⟨_, blk_new _ _, size_madeCells _ _, fun i hi => ?_⟩
  rw [← Array.getElem?_toList, toList_madeCells_one]
  simp [hi]
theorem RowIs.lt {w : World} {b : Nat} {t : TypeId} {n : Nat} {f : Nat → Value} (h : RowIs w b t n f) : b < w.heap.size := by
  obtain ⟨cur, h1, _, _⟩ := h
  exact blk_lt h1

def frames (cs : List (Nat × Nat)) : List Value := cs.reverse.flatMap fun f => [.int .i64 (f.1 : Int), .int .i64 (f.2 : Int)]
def nodes (l : List Nat) : List Value := l.reverse.map fun x : Nat => Value.int .i64 (x : Int)
theorem frames_cons (v nx : Nat) (cs : List (Nat × Nat)) : frames ((v, nx) :: cs) = frames cs ++ [.int .i64 (v : Int), .int .i64 (nx : Int)] := by
  simp [frames]
theorem frames_len (cs : List (Nat × Nat)) : (frames cs).length = cs.length * 2 := by
  induction cs with
  | nil => rfl
  | cons a cs ih => rw [show a = (a.1, a.2) from rfl, frames_cons]; simp [ih]; omega
theorem nodes_cons (x : Nat) (l : List Nat) : nodes (x :: l) = nodes l ++ [.int .i64 (x : Int)] := by simp [nodes]
theorem nodes_len (l : List Nat) : (nodes l).length = l.length := by simp [nodes]

structure Mem (B n : Nat) (w0 : World) (s : St) (vc vs : Value) (w : World) : Prop where
  bel : Below B w0 w
  sz : B + 10 ≤ w.heap.size
  ord : RowIs w B 3 n (fun i => .int .i64 (s.order i))
  vord : w.heap[B + 1]? = some (.cells #[.slice (some ⟨B, 0, none⟩) n n] 28 (0, 0))
  low : RowIs w (B + 2) 3 n (fun i => .int .i64 (s.low i))
  vlow : w.heap[B + 3]? = some (.cells #[.slice (some ⟨B + 2, 0, none⟩) n n] 28 (0, 0))
  comp : RowIs w (B + 4) 3 n (fun i => .int .i64 (s.comp i))
  on : RowIs w (B + 5) 4 n (fun i => .bool (s.onSt i))
  von : w.heap[B + 6]? = some (.cells #[.slice (some ⟨B + 5, 0, none⟩) n n] 30 (0, 0))
  vcal : w.heap[B + 7]? = some (.cells #[vc] 47 (0, 0))
  ocal : w.ownsRow (B + 10) 49 2 vc s.calls.length (frames s.calls)
  vstk : w.heap[B + 8]? = some (.cells #[vs] 28 (0, 0))
  ostk : w.ownsRow (B + 10) 3 1 vs s.stack.length (nodes s.stack)
  rch : w.heap[B + 9]? = some (.cells #[.int .i64 (s.reached : Int)] 3 (0, 0))

variable {B n : Nat} {w0 w w' : World} {s : St} {vc vs : Value}

theorem Mem.drew (h : Mem B n w0 s vc vs w) : Mem B n w0 s vc vs w.drew := { h with bel := h.bel.drew }
theorem below_drewN' {B : Nat} {a w : World} (h : Below B a w) (n : Nat) : Below B a (w.drewN n) := ⟨h.os, h.tape, h.output, h.size, h.block⟩
theorem Mem.drewN (h : Mem B n w0 s vc vs w) (k : Nat) : Mem B n w0 s vc vs (w.drewN k) := { h with bel := below_drewN' h.bel k }

theorem Mem.alloc (h : Mem B n w0 s vc vs w) (o : Obj) : Mem B n w0 s vc vs (w.alloc o) := by
  have k : ∀ b, b < w.heap.size → (w.alloc o).heap[b]? = w.heap[b]? := fun b hb => Below.heap_alloc w o b hb
  have hz := h.sz
  have c1 := h.vcal
  have c2 := h.ocal
  have s1 := h.vstk
  have s2 := h.ostk
  exact ⟨h.bel.alloc (by omega) o, by simp; omega, h.ord.keep (k _ (by omega)), (k _ (by omega)).trans h.vord, h.low.keep (k _ (by omega)), (k _ (by omega)).trans h.vlow, h.comp.keep (k _ (by omega)), h.on.keep (k _ (by omega)), (k _ (by omega)).trans h.von,
    (k _ (by omega)).trans c1, c2.alloc o, (k _ (by omega)).trans s1, s2.alloc o, (k _ (by omega)).trans h.rch⟩

theorem Mem.setOrd (h : Mem B n w0 s vc vs w) (i : Nat) (v : Int) : Mem B n w0 { s with order := upd s.order i v } vc vs (w.setCell ⟨B, i, none⟩ (.int .i64 v)) := by
  have k : ∀ b, b ≠ B → (w.setCell ⟨B, i, none⟩ (.int .i64 v)).heap[b]? = w.heap[b]? := fun b hb => blk_set_ne hb _ _
  have hz := h.sz
  have c1 := h.vcal
  have c2 := h.ocal
  have s1 := h.vstk
  have s2 := h.ostk
  exact ⟨h.bel.setCell (Nat.le_refl _) _, by rw [size_set]; exact hz, (h.ord.set i (.int .i64 v)).congr (fun j _ => by simp only [upd]; split <;> rfl), (k _ (by omega)).trans h.vord, h.low.keep (k _ (by omega)), (k _ (by omega)).trans h.vlow, h.comp.keep (k _ (by omega)), h.on.keep (k _ (by omega)), (k _ (by omega)).trans h.von,
    (k _ (by omega)).trans c1, ownsRow_setCell_below c2 (by show B < B + 10; omega) _, (k _ (by omega)).trans s1, ownsRow_setCell_below s2 (by show B < B + 10; omega) _, (k _ (by omega)).trans h.rch⟩

theorem Mem.setLow (h : Mem B n w0 s vc vs w) (i : Nat) (v : Int) : Mem B n w0 { s with low := upd s.low i v } vc vs (w.setCell ⟨B + 2, i, none⟩ (.int .i64 v)) := by
  have k : ∀ b, b ≠ B + 2 → (w.setCell ⟨B + 2, i, none⟩ (.int .i64 v)).heap[b]? = w.heap[b]? := fun b hb => blk_set_ne hb _ _
  have hz := h.sz
  have c1 := h.vcal
  have c2 := h.ocal
  have s1 := h.vstk
  have s2 := h.ostk
  exact ⟨h.bel.setCell (by show B ≤ B + 2; omega) _, by rw [size_set]; exact hz, h.ord.keep (k _ (by omega)), (k _ (by omega)).trans h.vord, (h.low.set i (.int .i64 v)).congr (fun j _ => by simp only [upd]; split <;> rfl), (k _ (by omega)).trans h.vlow, h.comp.keep (k _ (by omega)), h.on.keep (k _ (by omega)), (k _ (by omega)).trans h.von,
    (k _ (by omega)).trans c1, ownsRow_setCell_below c2 (by show B + 2 < B + 10; omega) _, (k _ (by omega)).trans s1, ownsRow_setCell_below s2 (by show B + 2 < B + 10; omega) _, (k _ (by omega)).trans h.rch⟩

theorem Mem.setComp (h : Mem B n w0 s vc vs w) (i : Nat) (v : Int) : Mem B n w0 { s with comp := upd s.comp i v } vc vs (w.setCell ⟨B + 4, i, none⟩ (.int .i64 v)) := by
  have k : ∀ b, b ≠ B + 4 → (w.setCell ⟨B + 4, i, none⟩ (.int .i64 v)).heap[b]? = w.heap[b]? := fun b hb => blk_set_ne hb _ _
  have hz := h.sz
  have c1 := h.vcal
  have c2 := h.ocal
  have s1 := h.vstk
  have s2 := h.ostk
  exact ⟨h.bel.setCell (by show B ≤ B + 4; omega) _, by rw [size_set]; exact hz, h.ord.keep (k _ (by omega)), (k _ (by omega)).trans h.vord, h.low.keep (k _ (by omega)), (k _ (by omega)).trans h.vlow, (h.comp.set i (.int .i64 v)).congr (fun j _ => by simp only [upd]; split <;> rfl), h.on.keep (k _ (by omega)), (k _ (by omega)).trans h.von,
    (k _ (by omega)).trans c1, ownsRow_setCell_below c2 (by show B + 4 < B + 10; omega) _, (k _ (by omega)).trans s1, ownsRow_setCell_below s2 (by show B + 4 < B + 10; omega) _, (k _ (by omega)).trans h.rch⟩

theorem Mem.setOn (h : Mem B n w0 s vc vs w) (i : Nat) (v : Bool) : Mem B n w0 { s with onSt := upd s.onSt i v } vc vs (w.setCell ⟨B + 5, i, none⟩ (.bool v)) := by
  have k : ∀ b, b ≠ B + 5 → (w.setCell ⟨B + 5, i, none⟩ (.bool v)).heap[b]? = w.heap[b]? := fun b hb => blk_set_ne hb _ _
  have hz := h.sz
  have c1 := h.vcal
  have c2 := h.ocal
  have s1 := h.vstk
  have s2 := h.ostk
  exact ⟨h.bel.setCell (by show B ≤ B + 5; omega) _, by rw [size_set]; exact hz, h.ord.keep (k _ (by omega)), (k _ (by omega)).trans h.vord, h.low.keep (k _ (by omega)), (k _ (by omega)).trans h.vlow, h.comp.keep (k _ (by omega)), (h.on.set i (.bool v)).congr (fun j _ => by simp only [upd]; split <;> rfl), (k _ (by omega)).trans h.von,
    (k _ (by omega)).trans c1, ownsRow_setCell_below c2 (by show B + 5 < B + 10; omega) _, (k _ (by omega)).trans s1, ownsRow_setCell_below s2 (by show B + 5 < B + 10; omega) _, (k _ (by omega)).trans h.rch⟩

theorem Mem.setRch (h : Mem B n w0 s vc vs w) (m : Nat) : Mem B n w0 { s with reached := m } vc vs (w.setCell ⟨B + 9, 0, none⟩ (.int .i64 (m : Int))) := by
  have k : ∀ b, b ≠ B + 9 → (w.setCell ⟨B + 9, 0, none⟩ (.int .i64 (m : Int))).heap[b]? = w.heap[b]? := fun b hb => blk_set_ne hb _ _
  have hz := h.sz
  have c1 := h.vcal
  have c2 := h.ocal
  have s1 := h.vstk
  have s2 := h.ostk
  exact ⟨h.bel.setCell (by show B ≤ B + 9; omega) _, by rw [size_set]; exact hz, h.ord.keep (k _ (by omega)), (k _ (by omega)).trans h.vord, h.low.keep (k _ (by omega)), (k _ (by omega)).trans h.vlow, h.comp.keep (k _ (by omega)), h.on.keep (k _ (by omega)), (k _ (by omega)).trans h.von,
    (k _ (by omega)).trans c1, ownsRow_setCell_below c2 (by show B + 9 < B + 10; omega) _, (k _ (by omega)).trans s1, ownsRow_setCell_below s2 (by show B + 9 < B + 10; omega) _, one_setCell h.rch⟩

/-- The labels lie in no block. -/
theorem Mem.setLab (h : Mem B n w0 s vc vs w) (m : Nat) : Mem B n w0 { s with labels := m } vc vs w := { h with }

/-- The rows of the calls and of the stack are two. -/
theorem two_rows {vc vs : Value} {base m m' : Nat} {xs ys : List Value} (hc : w.ownsRow base 49 2 vc m xs) (hs : w.ownsRow base 3 1 vs m' ys) : vc.ownBlock = none ∨ vc.ownBlock ≠ vs.ownBlock := by
  obtain ⟨_, ⟨rfl, _⟩ | ⟨g, cap, cur, rfl, _, hh, _⟩⟩ := hc
  · exact .inl rfl
  · right
    obtain ⟨_, ⟨rfl, _⟩ | ⟨g', cap', cur', rfl, _, hh', _⟩⟩ := hs
    · intro e; cases e
    · intro e
      have e' : g = g' := by simpa [Value.ownBlock] using e
      subst e'
      rw [hh] at hh'
      simp at hh'

/-- A new value for the variable 'calls', whose row may have been written. -/
theorem Mem.newCalls (h : Mem B n w0 s vc vs w)
    (hg : w.grownBy w' vc.ownBlock) {vc' : Value} {cs : List (Nat × Nat)} (ho : w'.ownsRow (B + 10) 49 2 vc' cs.length (frames cs)) :
    Mem B n w0 { s with calls := cs } vc' vs (w'.setCell ⟨B + 7, 0, none⟩ vc') := by
  have hv := h.vcal
  have hvo := h.ocal
  have hz := h.sz
  have hrow : ∀ k, vc.ownBlock = some k → B + 10 ≤ k := fun k hk => (hvo.lt k hk).1
  have k : ∀ b, b < B + 10 → b ≠ B + 7 → (w'.setCell ⟨B + 7, 0, none⟩ vc').heap[b]? = w.heap[b]? := fun b hb hne => (blk_set_ne hne _ _).trans (hg.block b (by omega) (fun e => by have := hrow b e.symm; omega))
  have k7 : w'.heap[B + 7]? = w.heap[B + 7]? := hg.block _ (by omega) (fun e => by have := hrow _ e.symm; omega)
  have s1 := h.vstk
  have s2 := h.ostk
  have s3 := s2.kept hg (by
    rcases two_rows hvo s2 with e | e
    · cases hs : vs.ownBlock with
      | none => exact .inl rfl
      | some b => right; rw [e]; simp
    · exact .inr (fun e' => e e'.symm))
  refine ⟨(h.bel.grown hg (by omega) (fun b hb => by have := hrow b hb; omega)).setCell (by show B ≤ B + 7; omega) _, by rw [size_set]; have := hg.size; omega, h.ord.keep (k _ (by omega) (by omega)), (k _ (by omega) (by omega)).trans h.vord, h.low.keep (k _ (by omega) (by omega)), (k _ (by omega) (by omega)).trans h.vlow, h.comp.keep (k _ (by omega) (by omega)), h.on.keep (k _ (by omega) (by omega)), (k _ (by omega) (by omega)).trans h.von,
    one_setCell (k7.trans hv), ownsRow_setCell_below ho (by show B + 7 < B + 10; omega) _, (k _ (by omega) (by omega)).trans s1, ownsRow_setCell_below s3 (by show B + 7 < B + 10; omega) _, (k _ (by omega) (by omega)).trans h.rch⟩

/-- A new value for the variable 'stack'. -/
theorem Mem.newStack (h : Mem B n w0 s vc vs w)
    (hg : w.grownBy w' vs.ownBlock) {vs' : Value} {st : List Nat} (ho : w'.ownsRow (B + 10) 3 1 vs' st.length (nodes st)) :
    Mem B n w0 { s with stack := st } vc vs' (w'.setCell ⟨B + 8, 0, none⟩ vs') := by
  have hv := h.vstk
  have hvo := h.ostk
  have hz := h.sz
  have hrow : ∀ k, vs.ownBlock = some k → B + 10 ≤ k := fun k hk => (hvo.lt k hk).1
  have k : ∀ b, b < B + 10 → b ≠ B + 8 → (w'.setCell ⟨B + 8, 0, none⟩ vs').heap[b]? = w.heap[b]? := fun b hb hne => (blk_set_ne hne _ _).trans (hg.block b (by omega) (fun e => by have := hrow b e.symm; omega))
  have k8 : w'.heap[B + 8]? = w.heap[B + 8]? := hg.block _ (by omega) (fun e => by have := hrow _ e.symm; omega)
  have c1 := h.vcal
  have c2 := h.ocal
  have c3 := c2.kept hg (two_rows c2 hvo)
  refine ⟨(h.bel.grown hg (by omega) (fun b hb => by have := hrow b hb; omega)).setCell (by show B ≤ B + 8; omega) _, by rw [size_set]; have := hg.size; omega, h.ord.keep (k _ (by omega) (by omega)), (k _ (by omega) (by omega)).trans h.vord, h.low.keep (k _ (by omega) (by omega)), (k _ (by omega) (by omega)).trans h.vlow, h.comp.keep (k _ (by omega) (by omega)), h.on.keep (k _ (by omega) (by omega)), (k _ (by omega) (by omega)).trans h.von,
    (k _ (by omega) (by omega)).trans c1, ownsRow_setCell_below c3 (by show B + 8 < B + 10; omega) _, one_setCell (k8.trans hv), ownsRow_setCell_below ho (by show B + 8 < B + 10; omega) _, (k _ (by omega) (by omega)).trans h.rch⟩

/-- Behind an append to the row of the calls, or of the stack, the ten first blocks are as they were. -/
theorem Mem.lowC (h : Mem B n w0 s vc vs w) (hg : w.grownBy w' vc.ownBlock) {b : Nat} {x : Obj} (hb : b < B + 10) (hx : w.heap[b]? = some x) : w'.heap[b]? = some x :=
  (hg.block b (by have := h.sz; omega) (fun e => by have := (h.ocal.lt b e.symm).1; omega)).trans hx
theorem Mem.lowS (h : Mem B n w0 s vc vs w) (hg : w.grownBy w' vs.ownBlock) {b : Nat} {x : Obj} (hb : b < B + 10) (hx : w.heap[b]? = some x) : w'.heap[b]? = some x :=
  (hg.block b (by have := h.sz; omega) (fun e => by have := (h.ostk.lt b e.symm).1; omega)).trans hx
theorem Mem.rowS (h : Mem B n w0 s vc vs w) (hg : w.grownBy w' vs.ownBlock) {b : Nat} {t : TypeId} {m : Nat} {f : Nat → Value} (hb : b < B + 10) (hx : RowIs w b t m f) : RowIs w' b t m f :=
  hx.keep (hg.block b (by have := h.sz; omega) (fun e => by have := (h.ostk.lt b e.symm).1; omega))
theorem own_shape {base : Nat} {e : TypeId} {size : Nat} {v : Value} {m : Nat} {xs : List Value} (h : w.ownsRow base e size v m xs) : ∃ a c, v = .slice a m c := by
  obtain ⟨_, ⟨rfl, rfl⟩ | ⟨g, cap, cur, rfl, _⟩⟩ := h
  · exact ⟨none, 0, rfl⟩
  · exact ⟨_, _, rfl⟩
theorem own_some {base : Nat} {e : TypeId} {size : Nat} {v : Value} {m : Nat} {xs : List Value} (h : w.ownsRow base e size v (m + 1) xs) : ∃ gc c, v = .slice (some ⟨gc, 0, none⟩) (m + 1) c ∧ base ≤ gc ∧ m + 1 ≤ c := by
  obtain ⟨_, ⟨rfl, h0⟩ | ⟨gc, cap, cur, rfl, hg, _, hc, _⟩⟩ := h
  · cases h0
  · exact ⟨_, _, rfl, hg, hc⟩
theorem frames_v (v nx : Nat) (cs : List (Nat × Nat)) : (frames ((v, nx) :: cs))[cs.length * 2]? = some (.int .i64 (v : Int)) := by
  rw [frames_cons, List.getElem?_append_right (by rw [frames_len]; omega), frames_len]; simp
theorem frames_nx (v nx : Nat) (cs : List (Nat × Nat)) : (frames ((v, nx) :: cs))[cs.length * 2 + 1]? = some (.int .i64 (nx : Int)) := by
  rw [frames_cons, List.getElem?_append_right (by rw [frames_len]; omega), frames_len, show cs.length * 2 + 1 - cs.length * 2 = 1 by omega]; rfl
theorem frames_u (v nx u nu : Nat) (cs : List (Nat × Nat)) : (frames ((v, nx) :: (u, nu) :: cs))[cs.length * 2]? = some (.int .i64 (u : Int)) := by
  rw [frames_cons, List.getElem?_append_left (by rw [frames_len]; simp)]; exact frames_v u nu cs
theorem frames_set (v nx nx' : Nat) (cs : List (Nat × Nat)) : (frames ((v, nx) :: cs)).set (cs.length * 2 + 1) (.int .i64 (nx' : Int)) = frames ((v, nx') :: cs) := by
  rw [frames_cons, frames_cons, List.set_append_right _ _ (by rw [frames_len]; omega), frames_len, show cs.length * 2 + 1 - cs.length * 2 = 1 by omega]; rfl
theorem nodes_top (x : Nat) (l : List Nat) : (nodes (x :: l))[l.length]? = some (.int .i64 (x : Int)) := by
  rw [nodes_cons, List.getElem?_append_right (by rw [nodes_len]; omega), nodes_len]; simp
theorem one_newN (w : World) (x : Value) (t : TypeId) (m : Nat) (hm : m = w.heap.size) : ∀ j u, [x][j]? = some u → (w.alloc (.cells #[x] t)).cell? ((⟨m, 0, none⟩ : Addr).add j) = some u := by
  subst hm
  intro j u hj
  match j, hj with
  | 0, hj => simp at hj; subst hj; simp [Addr.add]
theorem one_newD (w : World) (x : Value) (t : TypeId) (m : Nat) (hm : m = w.heap.size) : ∀ j u, [x][j]? = some u → (w.alloc (.cells #[x] t)).drew.cell? ((⟨m, 0, none⟩ : Addr).add j) = some u := one_newN w x t m hm
theorem two_newN (w : World) (x y : Value) (t : TypeId) (m : Nat) (hm : m = w.heap.size) : ∀ j u, [x, y][j]? = some u → (w.alloc (.cells #[x, y] t)).cell? ((⟨m, 0, none⟩ : Addr).add j) = some u := by
  subst hm
  intro j u hj
  match j, hj with
  | 0, hj => simp at hj; subst hj; simp [Addr.add]
  | 1, hj => simp at hj; subst hj; simp [Addr.add]

/-- 'f.next = m' through the pointer to the top frame. -/
theorem Mem.setNext {gc cap v nx : Nat} {rest : List (Nat × Nat)} (h : Mem B n w0 s (.slice (some ⟨gc, 0, none⟩) (rest.length + 1) cap) vs w) (hcs : s.calls = (v, nx) :: rest) (m : Nat) :
    Mem B n w0 { s with calls := (v, m) :: rest } (.slice (some ⟨gc, 0, none⟩) (rest.length + 1) cap) vs (w.setCell ⟨gc, rest.length * 2 + 1, none⟩ (.int .i64 (m : Int))) := by
  have hoc := h.ocal
  rw [hcs] at hoc
  have hgc : B + 10 ≤ gc := (hoc.lt gc rfl).1
  have k : ∀ b, b < B + 10 → (w.setCell ⟨gc, rest.length * 2 + 1, none⟩ (.int .i64 (m : Int))).heap[b]? = w.heap[b]? := fun b hb => blk_set_ne (by omega) _ _
  have hz := h.sz
  have hst := (hoc.stored (rest.length * 2 + 1) (.int .i64 (m : Int))).1
  rw [frames_set] at hst
  have h2 : w.ownsRow (B + 10) 3 1 vs s.stack.length (nodes s.stack) := h.ostk
  have hne : vs.ownBlock ≠ some gc := by
    rcases two_rows hoc h2 with e | e
    · cases e
    · exact fun e' => e e'.symm
  exact ⟨h.bel.setCell (by show B ≤ gc; omega) _, by rw [size_set]; exact hz, h.ord.keep (k _ (by omega)), (k _ (by omega)).trans h.vord, h.low.keep (k _ (by omega)), (k _ (by omega)).trans h.vlow, h.comp.keep (k _ (by omega)), h.on.keep (k _ (by omega)), (k _ (by omega)).trans h.von,
    (k _ (by omega)).trans h.vcal, hst, (k _ (by omega)).trans h.vstk, ownsRow_setCell_other h2 hne _, (k _ (by omega)).trans h.rch⟩

/-- 'calls = calls[:len(calls)-1]'. -/
theorem Mem.popCalls {gc cap v nx : Nat} {rest : List (Nat × Nat)} (h : Mem B n w0 s (.slice (some ⟨gc, 0, none⟩) (rest.length + 1) cap) vs w) (hcs : s.calls = (v, nx) :: rest) :
    Mem B n w0 { s with calls := rest } (.slice (some ⟨gc, 0, none⟩) rest.length cap) vs (w.setCell ⟨B + 7, 0, none⟩ (.slice (some ⟨gc, 0, none⟩) rest.length cap)) := by
  have hoc := h.ocal
  rw [hcs] at hoc
  rw [frames_cons] at hoc
  have := ownsRow_pop (by rw [frames_len]) hoc
  exact h.newCalls (⟨rfl, rfl, rfl, Nat.le_refl _, fun _ _ _ => rfl⟩) this

/-- 'stack = stack[:len(stack)-1]'. -/
theorem Mem.popStack {gs cap x : Nat} {l : List Nat} (h : Mem B n w0 s vc (.slice (some ⟨gs, 0, none⟩) (l.length + 1) cap) w) (hst : s.stack = x :: l) :
    Mem B n w0 { s with stack := l } vc (.slice (some ⟨gs, 0, none⟩) l.length cap) (w.setCell ⟨B + 8, 0, none⟩ (.slice (some ⟨gs, 0, none⟩) l.length cap)) := by
  have hoc := h.ostk
  rw [hst] at hoc
  rw [nodes_cons] at hoc
  have := ownsRow_pop (by rw [nodes_len]; omega) hoc
  exact h.newStack (⟨rfl, rfl, rfl, Nat.le_refl _, fun _ _ _ => rfl⟩) this

/-- In the middle of taking a component off: 'P' has been taken, 'l' is left. -/
def popping (s : St) (P l : List Nat) : St := { s with stack := l, onSt := fun x => if x ∈ P then false else s.onSt x, comp := fun x => if x ∈ P then (s.labels : Int) else s.comp x }

theorem Mem.popOne {gs cap x : Nat} {P l : List Nat} (h : Mem B n w0 (popping s P (x :: l)) vc (.slice (some ⟨gs, 0, none⟩) (l.length + 1) cap) w) :
    Mem B n w0 (popping s (P ++ [x]) l) vc (.slice (some ⟨gs, 0, none⟩) l.length cap)
      (((w.setCell ⟨B + 8, 0, none⟩ (.slice (some ⟨gs, 0, none⟩) l.length cap)).setCell ⟨B + 5, x, none⟩ (.bool false)).setCell ⟨B + 4, x, none⟩ (.int .i64 (s.labels : Int))) := by
  have h1 := ((h.popStack (x := x) (l := l) rfl).setOn x false).setComp x (s.labels : Int)
  have e1 : upd (fun y => if y ∈ P then false else s.onSt y) x false = fun y => if y ∈ P ++ [x] then false else s.onSt y := by
    funext y
    by_cases e : y = x
    · subst e; simp [upd]
    · simp [upd, e]
  have e2 : upd (fun y => if y ∈ P then (s.labels : Int) else s.comp y) x (s.labels : Int) = fun y => if y ∈ P ++ [x] then (s.labels : Int) else s.comp y := by
    funext y
    by_cases e : y = x
    · subst e; simp [upd]
    · simp [upd, e]
  unfold popping
  rw [← e1, ← e2]
  exact h1

theorem popping_nil (s : St) : popping s [] s.stack = s := by simp [popping]
end Go.Proofs.Qxb6004021a
