/-
  The graph as it lies in memory; degree; ZZGraph.
-/
import Derived.Test.Qxb6003964aDoorSt
namespace Go.Proofs.Qxb6003964aDoor
open Go.ChangeShapes Go.WideShapes Go.ChangeAt Go.RowKit
open Go.Lib (byteCells)

structure GrOK (n m c : Nat) (I F A : Nat → Nat) : Prop where
  n256 : n ≤ 256
  m64 : m ≤ 65536
  mc : m ≤ c
  I63 : ∀ i, i < n → I i < 9223372036854775808
  Fup : ∀ i, i < n → F i ≤ F (i + 1)
  Fm : ∀ i, i ≤ n → F i ≤ m
  An : ∀ k, k < m → A k < n

structure GrAt (G gI gF gA n m c : Nat) (I F A : Nat → Nat) (w : World) : Prop where
  hg : w.heap[G]? = some (.cells #[.slice (some ⟨gI, 0, none⟩) n n, .slice (some ⟨gF, 0, none⟩) (n + 1) (n + 1), .slice (some ⟨gA, 0, none⟩) m c] 40 (0, 0))
  hI : ∀ i, i < n → w.cell? ⟨gI, i, none⟩ = some (.int .i64 (I i : Int))
  hF : ∀ i, i ≤ n → w.cell? ⟨gF, i, none⟩ = some (.int .i64 (F i : Int))
  hA : ∀ k, k < m → w.cell? ⟨gA, k, none⟩ = some (.int .i32 (A k : Int))
  lt : gI < w.heap.size ∧ gF < w.heap.size ∧ gA < w.heap.size

variable {G gI gF gA n m c : Nat} {I F A : Nat → Nat} {w w1 : World}
theorem GrAt.keep {S : Nat → Prop} (h : GrAt G gI gF gA n m c I F A w) (hF : Fr S w w1) (h0 : ¬ S G) (h1 : ¬ S gI) (h2 : ¬ S gF) (h3 : ¬ S gA) : GrAt G gI gF gA n m c I F A w1 :=
  ⟨hF.keepBlk h.hg h0, fun i hi => (hF.cell (p := ⟨gI, i, none⟩) h.lt.1 h1).trans (h.hI i hi), fun i hi => (hF.cell (p := ⟨gF, i, none⟩) h.lt.2.1 h2).trans (h.hF i hi), fun i hi => (hF.cell (p := ⟨gA, i, none⟩) h.lt.2.2 h3).trans (h.hA i hi), by have := hF.size; have := h.lt; omega⟩

set_option maxHeartbeats 1000000 in
theorem degree_any (ok : GrOK n m c I F A) (h : GrAt G gI gF gA n m c I F A w) {i : Nat} (hi : i < n) :
    Calls Tryd.prog 11 #[.pointer (some ⟨G, 0, none⟩), .int .i64 (i : Int)] w fun e w' => e = .returned (.int .i64 ((F (i + 1) : Int) - (F i : Int))) ∧ ∃ k, w' = w.drewN k := by
  have c1 : w.cell? ⟨G, 1, none⟩ = some (.slice (some ⟨gF, 0, none⟩) (n + 1) (n + 1)) := (blk_cell h.hg 1).trans rfl
  have f0 := h.hF i (Nat.le_of_lt hi)
  have f1 := h.hF (i + 1) hi
  have hn := ok.n256
  have a1 : F i ≤ 65536 := Nat.le_trans (ok.Fm i (Nat.le_of_lt hi)) ok.m64
  have a2 : F (i + 1) ≤ 65536 := Nat.le_trans (ok.Fm (i + 1) hi) ok.m64
  generalize F (i + 1) = y at *
  generalize F i = x at *
  have hi0 : (0 : Int) ≤ (i : Int) := by omega
  have hi1 : (i : Int) < 256 := by omega
  have hi2 : i < n + 1 := by omega
  have hi3 : i + 1 < n + 1 := by omega
  have hx : (x : Int) ≤ 65536 := by omega
  have hy : (y : Int) ≤ 65536 := by omega
  have hx0 : (0 : Int) ≤ x := by omega
  have hy0 : (0 : Int) ≤ y := by omega
  clear h ok
  go_enter Tryd.func11, Tryd.ntmps11
  go_wp2
  go_quiet (fail)
  go_wp2
  go_ret
  exact ⟨rfl, _, rfl⟩

theorem zzgraph_any (a b d : Addr) (la ca lb cb ld cd : Nat) : Calls Tryd.prog 5 #[.slice (some a) la ca, .slice (some b) lb cb, .slice (some d) ld cd] w fun e w' => e = .returned (.pointer (some ⟨w.heap.size, 0, none⟩)) ∧ w' = w.alloc (.cells #[.slice (some a) la ca, .slice (some b) lb cb, .slice (some d) ld cd] 40 (0, 0)) := by
  go_enter Tryd.func5, Tryd.ntmps5
  go_wp2
  go_ret
  exact ⟨rfl, rfl⟩
end Go.Proofs.Qxb6003964aDoor
