/-
  Appends to a row of the call's own: the result lies in the same block or in a new one, and the shorter slice still owns its cells. Frames.
-/
import Derived.Test.Qxb6003964aDoorLawPost
import Derived.ArgAppend
import Derived.Lib.AppendStr
import Derived.OwnWalk
import Derived.Deep.Draws
namespace Go.Proofs.Qxb6003964aDoor
open Go.ChangeShapes Go.WideShapes Go.ChangeAt Go.RowKit

theorem own_base {w : World} {b b' : Nat} {e : TypeId} {size : Nat} {v : Value} {m : Nat} {xs : List Value} (h : w.ownsRow b e size v m xs) (hb : b' ≤ b) : w.ownsRow b' e size v m xs := by
  obtain ⟨h1, h2 | ⟨g, cap, cur, h3, h4, h5⟩⟩ := h
  · exact ⟨h1, .inl h2⟩
  · exact ⟨h1, .inr ⟨g, cap, cur, h3, Nat.le_trans hb h4, h5⟩⟩

/-- The first n of what is owned is owned by the shorter slice. -/
theorem own_pre {w : World} {base : Nat} {e : TypeId} {g n m cap : Nat} {xs ys : List Value} (h : w.ownsRow base e 1 (.slice (some ⟨g, 0, none⟩) (n + m) cap) (n + m) (xs ++ ys)) (hx : xs.length = n) : w.ownsRow base e 1 (.slice (some ⟨g, 0, none⟩) n cap) n xs := by
  obtain ⟨h1, ⟨h2, _⟩ | ⟨g', cap', cur, h3, h4, h5, h6, h7, h8, h9⟩⟩ := h
  · cases h2
  · cases h3
    refine ⟨by simpa using hx, .inr ⟨g, cap, cur, rfl, h4, h5, by omega, h7, h8, ?_⟩⟩
    have e1 : cur.toList.take n = (cur.toList.take ((n + m) * 1)).take n := by rw [List.take_take]; congr 1; omega
    rw [Nat.mul_one, e1, h9, List.take_append_of_le_length (by omega), List.take_of_length_le (by omega)]

/-- Same block, or a new one. -/
def Near (w : World) (v v' : Value) : Prop := v'.ownBlock = v.ownBlock ∨ ∃ g', v'.ownBlock = some g' ∧ w.heap.size ≤ g'

theorem wpList_append_two {P : Program} (w : World) {ops : Array Oper} {rest : List Oper} {o : Oper} {a : Act} {Q : Exit → Act → World → Prop}
    (hg : o.guard = none) (s x : Operand) (t : TypeId) (hop : o.op = Op.call { callee := Callee.builtin Builtin.append, args := #[s, x], argTypes := #[t, t] })
    (base : Nat) (e : TypeId) (i : TypeInfo) (z : Value) (bytes : Nat) (h1 : P.underlying t = some (.slice e)) (h2 : P.info? e = some i) (h3 : i.zero = some z) (h4 : i.size = 1) (h5 : i.bytes = bytes) (h6 : z.cells.size = 1)
    (v : Value) (n : Nat) (xs : List Value) (hs : a.eval s = v) (hown : w.ownsRow base e 1 v n xs)
    (ad : Addr) (m c : Nat) (news : List Value) (hx : a.eval x = .slice (some ad) m c) (hn : news.length = m) (hc : ∀ j u, news[j]? = some u → w.cell? (ad.add j) = some u) (h1c : ∀ u ∈ news, u.oneCell' = true) (hm : 0 < m)
    (b1 : n + m ≤ maxLen) (b2 : (n + m) * bytes ≤ 140737488355328) (hbase : base ≤ w.heap.size)
    (hK : ∀ v' w', w'.ownsRow base e 1 v' (n + m) (xs ++ news) → w.grownBy w' v.ownBlock → Near w v v' → w'.ownsRow base e 1 v n xs → wpList P ops Q rest (a.put o.dst v') w') :
    wpList P ops Q (o :: rest) a w := by
  have grows : ∀ ao cap, v = .slice ao n cap → (ao = none → n = 0 ∧ cap = 0) → (∀ b, ao = some b → ∀ j u, xs[j]? = some u → w.cell? (b.add j) = some u) → cap < n + m → wpList P ops Q (o :: rest) a w := by
    intro ao cap hv hnone hold hfull
    refine wpList_append_grows w hg s x t hop e i z 1 bytes h1 h2 h3 h4 h5 h6 (by omega) ao n cap xs (hs.trans hv) hnone hown.1 hold ad m c news hx (by omega) hc h1c hfull b1 b2 ?_
    intro v' w' ho hgr
    refine hK v' w' (own_base ho hbase) ⟨hgr.os, hgr.tape, hgr.output, hgr.size, fun k hk _ => hgr.block k hk (by simp)⟩ (.inr ?_) (hown.kept hgr ?_)
    · obtain ⟨_, ⟨_, h0⟩ | ⟨g', cap', cur, rfl, hgg, _⟩⟩ := ho
      · omega
      · exact ⟨g', rfl, hgg⟩
    · cases hvo : v.ownBlock with
      | none => exact .inl rfl
      | some b => exact .inr (by simp)
  rcases hown.2 with ⟨rfl, rfl⟩ | ⟨g, cap, cur, rfl, hbg, hh, hnc, hcm, hcs, htake⟩
  · exact grows none 0 rfl (fun _ => ⟨rfl, rfl⟩) (fun b hb => by cases hb) (by omega)
  · by_cases hroom : n + m ≤ cap
    · refine wpList_append_fits w hg s x t hop base e i 1 h1 h2 h4 g n cap xs hs hown ad m c news hx (by omega) hc h1c hroom ?_
      intro w' ho hgr
      exact hK _ w' ho hgr (.inl rfl) (own_pre ho (by simpa using hown.1))
    · exact grows (some ⟨g, 0, none⟩) cap rfl (fun e => by cases e) (fun b hb j u hj => by cases hb; exact hown.cells (g := g) rfl j u hj) (by omega)

/-- What an append of a string gives: the same. -/
theorem run_append_str_two {P : Program} (w : World) (base : Nat) (t u ty e : TypeId) (i : TypeInfo) (ht : P.underlying t = some (.slice e)) (hu : P.underlying u = some .string) (hi : P.info? e = some i) (hz : i.zero = some (.int .u8 0))
    (hsize : i.size = 1) (hby : i.bytes = 1) (v : Value) (n : Nat) (xs : List Value) (hown : w.ownsRow base e 1 v n xs) (s : ByteArray) (hpos : 0 < s.size)
    (h63 : n + s.size ≤ maxLen) (hbytes : n + s.size ≤ 1048576) (hbase : base ≤ w.heap.size) :
    ∃ v' w', (Builtin.append_ #[t, u] ty #[v, .string s]).run P w = .ok v' w' ∧ w'.ownsRow base e 1 v' (n + s.size) (xs ++ Lib.strCells s) ∧ w.grownBy w' v.ownBlock ∧ Near w v v' := by
  rcases hown.2 with ⟨rfl, rfl⟩ | ⟨g, cap, cur, rfl, hbg, hh, hnc, hcm, hcs, htake⟩
  · have hx : xs = [] := List.eq_nil_of_length_eq_zero (by simpa using hown.1)
    subst hx
    obtain ⟨v', w', hr, h2, h3, h4⟩ := Lib.run_append_own_string (P := P) w w.heap.size t u ty e i ht hu hi hz hsize hby (.slice none 0 0) 0 [] (World.ownsRow_nil _ _ _ _) s h63 (by omega) (Nat.le_refl _)
    refine ⟨v', w', hr, own_base h2 hbase, h3, .inr ?_⟩
    obtain ⟨_, ⟨_, h0⟩ | ⟨g', cap', cur', rfl, hgg, _⟩⟩ := h2
    · omega
    · exact ⟨g', rfl, hgg⟩
  · obtain ⟨v', w', hr, h2, h3, h4⟩ := Lib.run_append_own_string (P := P) w base t u ty e i ht hu hi hz hsize hby _ n xs hown s h63 (by omega) hbase
    refine ⟨v', w', hr, h2, h3, ?_⟩
    have hcs' : cur.size = cap := by simpa using hcs
    by_cases hroom : n + s.size ≤ cap
    · have hr2 := Lib.run_append_room_string (P := P) w t u ty e i ht hu hi hsize g n cap cur hh s hroom (by omega)
      rw [hr] at hr2
      injection hr2 with e1 e2
      exact .inl (by rw [e1]; rfl)
    · have hr2 := Lib.run_append_grow_string (P := P) w t u ty e i (.int .u8 0) ht hu hi hz ⟨g, 0, none⟩ n cap xs (by rw [hsize]; exact hown.1) (hown.cells (g := g) rfl) s (by omega) (by omega) (by rw [hby]; exact growslice_fits (by omega) (by omega))
      rw [hr] at hr2
      injection hr2 with e1 e2
      exact .inr ⟨w.heap.size, by rw [e1]; rfl, Nat.le_refl _⟩

theorem wpList_append_str_two {P : Program} (w : World) {ops : Array Oper} {rest : List Oper} {o : Oper} {a : Act} {Q : Exit → Act → World → Prop} (hgd : o.guard = none) (sl x : Operand) (t u : TypeId)
    (ho : o.op = .call { callee := .builtin .append, args := #[sl, x], argTypes := #[t, u] })
    (base : Nat) (e : TypeId) (i : TypeInfo) (ht : P.underlying t = some (.slice e)) (hu : P.underlying u = some .string) (hi : P.info? e = some i) (hz : i.zero = some (.int .u8 0)) (hsize : i.size = 1) (hby : i.bytes = 1)
    (v : Value) (n : Nat) (xs : List Value) (hs : a.eval sl = v) (hown : w.ownsRow base e 1 v n xs) (s : ByteArray) (hx : a.eval x = .string s) (hpos : 0 < s.size)
    (h63 : n + s.size ≤ maxLen) (hbytes : n + s.size ≤ 1048576) (hbase : base ≤ w.heap.size)
    (h : ∀ v' w', w'.ownsRow base e 1 v' (n + s.size) (xs ++ Lib.strCells s) → w.grownBy w' v.ownBlock → Near w v v' → wpList P ops Q rest (a.put o.dst v') w') : wpList P ops Q (o :: rest) a w := by
  refine wpList_plain hgd fun K hK => ?_
  obtain ⟨v', w', hr, h2, h3, h4⟩ := run_append_str_two (P := P) w base t u o.type e i ht hu hi hz hsize hby v n xs hown s hpos h63 hbytes hbase
  unfold Oper.wp
  simp [execOp, ho, resolve, invoke, builtin, hs, hx, hr, Result.andThen]
  exact hK _ _ (h v' w' h2 h3 h4)

/-! ### Frames -/
/-- But for the blocks of S, w' is as w was; no block has gone. -/
structure Fr (S : Nat → Prop) (w w' : World) : Prop where
  os : w'.os = w.os
  tape : w'.tape = w.tape
  output : w'.output = w.output
  size : w.heap.size ≤ w'.heap.size
  block : ∀ k, k < w.heap.size → ¬ S k → w'.heap[k]? = w.heap[k]?
variable {S S' : Nat → Prop} {w w1 w2 : World}
theorem Fr.refl (S : Nat → Prop) (w : World) : Fr S w w := ⟨rfl, rfl, rfl, Nat.le_refl _, fun _ _ _ => rfl⟩
theorem Fr.trans (h : Fr S w w1) (k : Fr S w1 w2) : Fr S w w2 :=
  ⟨k.os.trans h.os, k.tape.trans h.tape, k.output.trans h.output, Nat.le_trans h.size k.size, fun i hi hS => (k.block i (Nat.lt_of_lt_of_le hi h.size) hS).trans (h.block i hi hS)⟩
/-- The second step may write what the first has made. -/
theorem Fr.trans' (h : Fr S w w1) (k : Fr S' w1 w2) (hS : ∀ i, i < w.heap.size → S' i → S i) : Fr S w w2 :=
  ⟨k.os.trans h.os, k.tape.trans h.tape, k.output.trans h.output, Nat.le_trans h.size k.size, fun i hi hn => (k.block i (Nat.lt_of_lt_of_le hi h.size) (fun h' => hn (hS i hi h'))).trans (h.block i hi hn)⟩
theorem Fr.mono (h : Fr S w w1) (hS : ∀ i, S i → S' i) : Fr S' w w1 := ⟨h.os, h.tape, h.output, h.size, fun i hi hn => h.block i hi (fun h' => hn (hS i h'))⟩
theorem Fr.alloc (h : Fr S w w1) (o : Obj) : Fr S w (w1.alloc o) :=
  ⟨h.os, h.tape, h.output, by simp; exact Nat.le_succ_of_le h.size, fun i hi hn => (Below.heap_alloc _ _ _ (Nat.lt_of_lt_of_le hi h.size)).trans (h.block i hi hn)⟩
theorem Fr.setCell (h : Fr S w w1) (p : Addr) (v : Value) (hp : p.block < w.heap.size → S p.block) : Fr S w (w1.setCell p v) :=
  ⟨h.os, h.tape, h.output, by simp [World.setCell]; exact h.size, fun i hi hn => (Below.heap_setCell _ _ _ _ (fun e => hn (by rw [e]; exact hp (by rw [← e]; exact hi)))).trans (h.block i hi hn)⟩
theorem Fr.drew (h : Fr S w w1) : Fr S w w1.drew := ⟨h.os, h.tape, h.output, h.size, h.block⟩
theorem Fr.drewN (h : Fr S w w1) (n : Nat) : Fr S w (w1.drewN n) := ⟨h.os, h.tape, h.output, h.size, h.block⟩
theorem Fr.grown {row : Option Nat} (h : Fr S w w1) (hg : w1.grownBy w2 row) (hr : ∀ k, row = some k → k < w.heap.size → S k) : Fr S w w2 :=
  ⟨hg.os.trans h.os, hg.tape.trans h.tape, hg.output.trans h.output, Nat.le_trans h.size hg.size, fun i hi hn => (hg.block i (Nat.lt_of_lt_of_le hi h.size) (fun e => hn (hr i e.symm hi))).trans (h.block i hi hn)⟩
theorem Fr.below {B : Nat} (h : Fr S w w1) (hB : B ≤ w.heap.size) (hS : ∀ i, i < B → ¬ S i) : Below B w w1 := ⟨h.os, h.tape, h.output, h.size, fun i hi => h.block i (by omega) (hS i hi)⟩
theorem Fr.keepBlk (h : Fr S w w1) {b : Nat} {x : Obj} (hx : w.heap[b]? = some x) (hn : ¬ S b) : w1.heap[b]? = some x := (h.block b (blk_lt hx) hn).trans hx
theorem Fr.keepOwn (h : Fr S w w1) {base : Nat} {e : TypeId} {size : Nat} {v : Value} {m : Nat} {xs : List Value} (ho : w.ownsRow base e size v m xs) (hn : ∀ g, v.ownBlock = some g → ¬ S g) : w1.ownsRow base e size v m xs := by
  obtain ⟨h1, h2 | ⟨g, cap, cur, rfl, h4, h5, r⟩⟩ := ho
  · exact ⟨h1, .inl h2⟩
  · exact ⟨h1, .inr ⟨g, cap, cur, rfl, h4, h.keepBlk h5 (hn g rfl), r⟩⟩
theorem Fr.cell (h : Fr S w w1) {p : Addr} (hp : p.block < w.heap.size) (hn : ¬ S p.block) : w1.cell? p = w.cell? p := World.cell?_of_block (w := w) (h.block p.block hp hn)
end Go.Proofs.Qxb6003964aDoor
