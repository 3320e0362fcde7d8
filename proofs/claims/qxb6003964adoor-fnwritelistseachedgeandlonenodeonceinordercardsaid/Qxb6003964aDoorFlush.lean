/-
  (*bufio.Writer).Flush over the law's sink.
-/
import Derived.Test.Qxb6003964aDoorSink
import Derived.Deep.RegionHeld3
namespace Go.Proofs.Qxb6003964aDoor
open Go.ChangeShapes Go.WideShapes Go.ChangeAt Go.RowKit
open Go.Lib (byteCells)

/-- A bufio.Writer in block P, its buffer in block Q, over the sink in block K. -/
structure BwAt (B P Q K : Nat) (fail : Bool) (err : Value) (pend got : List UInt8) (vg : Value) (w : World) : Prop where
  sink : SinkAt B K fail vg got w
  hp : w.heap[P]? = some (.cells #[err, .slice (some ⟨Q, 0, none⟩) 4096 4096, .int .i64 (pend.length : Int), .iface 30 (.pointer (some ⟨K, 0, none⟩))] 55 (0, 0))
  hq : ∃ cur, w.heap[Q]? = some (.cells cur 5 (0, 0)) ∧ cur.size = 4096 ∧ cur.toList.take pend.length = byteCells pend
  len : pend.length ≤ 4096
  dst : P ≠ Q ∧ P ≠ K ∧ Q ≠ K ∧ P < B ∧ Q < B

theorem method_write (a : Addr) (w : World) : (method 201 30 (.pointer (some a)) "Write").run Tryd.prog w = .ok (46, .pointer (some a)) w := by kernel_rfl
theorem buf_bytes {w : World} {Q : Nat} {cur : Array Value} {bs : List UInt8} (h : w.heap[Q]? = some (.cells cur 5 (0, 0))) (ht : cur.toList.take bs.length = byteCells bs) : BytesAt w ⟨Q, 0, none⟩ bs := by
  intro j u hj
  have hjl : j < bs.length := by have := (List.getElem?_eq_some_iff.1 hj).1; rwa [byteCells_len] at this
  rw [add_plain, Nat.zero_add, blk_cell h, ← Array.getElem?_toList]
  rw [← ht, List.getElem?_take, if_pos hjl] at hj
  exact hj

variable {B P Q K : Nat} {err vg : Value} {pend got : List UInt8} {w : World}

theorem frw {S : Nat → Prop} {w w1 : World} (h : Fr S w.drew w1) : Fr S w w1 := ⟨h.os, h.tape, h.output, h.size, h.block⟩
theorem keepP {w w1 : World} {x1 x2 x3 : Value} (h : BwAt B P Q K false err pend got vg w) (hF : Fr (fun k => k = K ∨ vg.ownBlock = some k) w w1) (p1 : w.cell? ⟨P, 1, none⟩ = some x1) (p2 : w.cell? ⟨P, 2, none⟩ = some x2) (p3 : w.cell? ⟨P, 3, none⟩ = some x3) :
    w1.cell? ⟨P, 1, none⟩ = some x1 ∧ w1.cell? ⟨P, 2, none⟩ = some x2 ∧ w1.cell? ⟨P, 3, none⟩ = some x3 := by
  have hn : ¬ (P = K ∨ vg.ownBlock = some P) := by
    rintro (e | e)
    · exact h.dst.2.1 e
    · have := (h.sink.own.lt P e).1; have := h.dst.2.2.2.1; omega
  have hl := blk_lt h.hp
  exact ⟨(hF.cell (p := ⟨P, 1, none⟩) hl hn).trans p1, (hF.cell (p := ⟨P, 2, none⟩) hl hn).trans p2, (hF.cell (p := ⟨P, 3, none⟩) hl hn).trans p3⟩

theorem keepP0 {w w1 : World} {x1 x2 x3 : Value} {fail : Bool} (h : BwAt B P Q K fail err pend got vg w) (hF : Fr (fun _ => False) w w1) (p1 : w.cell? ⟨P, 1, none⟩ = some x1) (p2 : w.cell? ⟨P, 2, none⟩ = some x2) (p3 : w.cell? ⟨P, 3, none⟩ = some x3) :
    w1.cell? ⟨P, 1, none⟩ = some x1 ∧ w1.cell? ⟨P, 2, none⟩ = some x2 ∧ w1.cell? ⟨P, 3, none⟩ = some x3 :=
  have hl := blk_lt h.hp
  ⟨(hF.cell (p := ⟨P, 1, none⟩) hl (fun f => f)).trans p1, (hF.cell (p := ⟨P, 2, none⟩) hl (fun f => f)).trans p2, (hF.cell (p := ⟨P, 3, none⟩) hl (fun f => f)).trans p3⟩

theorem flush_err {fail : Bool} {a : Addr} (h : BwAt B P Q K fail (.iface 75 (.pointer (some a))) pend got vg w) :
    Calls Tryd.prog 13 #[.pointer (some ⟨P, 0, none⟩)] w fun e w' => e = .returned (.iface 75 (.pointer (some a))) ∧ w' = w := by
  have p0 : w.cell? ⟨P, 0, none⟩ = some (.iface 75 (.pointer (some a))) := (blk_cell h.hp 0).trans rfl
  clear h
  go_enter Tryd.func13, Tryd.ntmps13
  go_wp2
  go_ret
  exact ⟨rfl, rfl⟩

theorem flush_none {fail : Bool} (h : BwAt B P Q K fail .nilIface [] got vg w) :
    Calls Tryd.prog 13 #[.pointer (some ⟨P, 0, none⟩)] w fun e w' => e = .returned .nilIface ∧ w' = w := by
  have p0 : w.cell? ⟨P, 0, none⟩ = some .nilIface := (blk_cell h.hp 0).trans rfl
  have p2 : w.cell? ⟨P, 2, none⟩ = some (.int .i64 0) := (blk_cell h.hp 2).trans rfl
  clear h
  go_enter Tryd.func13, Tryd.ntmps13
  go_wp2
  go_ret
  exact ⟨rfl, rfl⟩

set_option maxHeartbeats 1000000 in
theorem flush_ok (h : BwAt B P Q K false .nilIface pend got vg w) (hpos : 0 < pend.length) (hlim : got.length + pend.length ≤ 1073741824) :
    Calls Tryd.prog 13 #[.pointer (some ⟨P, 0, none⟩)] w fun e w' => e = .returned .nilIface ∧ ∃ vg', BwAt B P Q K false .nilIface [] (got ++ pend) vg' w' ∧ Near w vg vg' ∧ Fr (fun k => k = P ∨ k = K ∨ vg.ownBlock = some k) w w' := by
  have p0 : w.cell? ⟨P, 0, none⟩ = some .nilIface := (blk_cell h.hp 0).trans rfl
  have p1 : w.cell? ⟨P, 1, none⟩ = some (.slice (some ⟨Q, 0, none⟩) 4096 4096) := (blk_cell h.hp 1).trans rfl
  have p2 : w.cell? ⟨P, 2, none⟩ = some (.int .i64 (pend.length : Int)) := (blk_cell h.hp 2).trans rfl
  have p3 : w.cell? ⟨P, 3, none⟩ = some (.iface 30 (.pointer (some ⟨K, 0, none⟩))) := (blk_cell h.hp 3).trans rfl
  have hl := h.len
  have hl0 : (0 : Int) ≤ (pend.length : Int) := by omega
  have hl1 : (pend.length : Int) ≤ 4096 := by omega
  have hne : ((pend.length : Int) == 0) = false := by rw [beq_eq_false_iff_ne]; omega
  have H := Lib.hid h
  clear h
  have hme := method_write
  obtain ⟨cur, hq1, hq2, hq3⟩ := H.out.hq
  have Hby : Hid (BytesAt w ⟨Q, 0, none⟩ pend) := buf_bytes hq1 hq3
  have Hcur : Hid (w.heap[Q]? = some (.cells cur 5 (0, 0)) ∧ cur.size = 4096) := ⟨hq1, hq2⟩
  clear hq1 hq2 hq3
  go_enter Tryd.func13, Tryd.ntmps13
  go_wp2
  go_region_held3 (fun w' => w'.cell? ⟨P, 1, none⟩ = some (.slice (some ⟨Q, 0, none⟩) 4096 4096) ∧ w'.cell? ⟨P, 2, none⟩ = some (.int .i64 (pend.length : Int)) ∧ w'.cell? ⟨P, 3, none⟩ = some (.iface 30 (.pointer (some ⟨K, 0, none⟩)))) (first | go_keep | exact hS3) ((go_at_call 46; refine (sink_ok (B := B) (vg := vg) (got := got) pend ⟨Q, 0, none⟩ 4096 _ ?_ ?_ hpos hlim).mono ?_; (exact ⟨H.out.sink.hk, H.out.sink.own, H.out.sink.kB, H.out.sink.sz⟩); (exact Hby.out); rintro e w1 ⟨rfl, vg', hS, hN, hF⟩; have hS3 := keepP H.out (frw hF) p1 p2 p3))
  have hF' := frw hF
  have hn : ¬ (P = K ∨ vg.ownBlock = some P) := by
    rintro (e | e)
    · exact H.out.dst.2.1 e
    · have := (H.out.sink.own.lt P e).1; have := H.out.dst.2.2.2.1; omega
  have hnQ : ¬ (Q = K ∨ vg.ownBlock = some Q) := by
    rintro (e | e)
    · exact H.out.dst.2.2.1 e
    · have := (H.out.sink.own.lt Q e).1; have := H.out.dst.2.2.2.2; omega
  have hp1 := hF'.keepBlk H.out.hp hn
  have hq1 := hF'.keepBlk Hcur.out.1 hnQ
  have g2 : w1.cell? ⟨P, 2, none⟩ = some (.int .i64 (pend.length : Int)) := (blk_cell hp1 2).trans rfl
  have f2 : w1.frozen? ⟨P, 2, none⟩ = false := blk_free hp1 2
  have HP : Hid (∃ vg', BwAt B P Q K false .nilIface [] (got ++ pend) vg' (w1.setCell ⟨P, 2, none⟩ (.int .i64 0)) ∧ Near w vg vg' ∧ Fr (fun k => k = P ∨ k = K ∨ vg.ownBlock = some k) w (w1.setCell ⟨P, 2, none⟩ (.int .i64 0))) := by
    refine ⟨vg', ⟨⟨(blk_set_ne (fun e => H.out.dst.2.1 e.symm) _ _).trans hS.hk, ownsRow_setCell_below hS.own H.out.dst.2.2.2.1 _, hS.kB, by rw [size_set]; exact hS.sz⟩, by rw [blk_set hp1 2]; rfl, ⟨cur, (blk_set_ne (fun e => H.out.dst.1 e.symm) _ _).trans hq1, Hcur.out.2, rfl⟩, by simp, H.out.dst⟩, hN, ?_⟩
    exact (hF'.mono (fun k hk => .inr hk)).setCell _ _ (fun _ => .inl rfl)
  clear hF hF' hn hnQ hp1 hq1 hS hN hS3 H Hby Hcur
  go_wp2
  go_ret
  exact ⟨rfl, HP.out⟩

/-- A refusing sink: the error is kept and handed back. -/
theorem flush_fail (h : BwAt B P Q K true .nilIface pend got vg w) (hpos : 0 < pend.length) :
    Calls Tryd.prog 13 #[.pointer (some ⟨P, 0, none⟩)] w fun e w' => ∃ a, e = .returned (.iface 75 (.pointer (some a))) ∧ BwAt B P Q K true (.iface 75 (.pointer (some a))) pend got vg w' ∧ Fr (fun k => k = P) w w' := by
  have p0 : w.cell? ⟨P, 0, none⟩ = some .nilIface := (blk_cell h.hp 0).trans rfl
  have p1 : w.cell? ⟨P, 1, none⟩ = some (.slice (some ⟨Q, 0, none⟩) 4096 4096) := (blk_cell h.hp 1).trans rfl
  have p2 : w.cell? ⟨P, 2, none⟩ = some (.int .i64 (pend.length : Int)) := (blk_cell h.hp 2).trans rfl
  have p3 : w.cell? ⟨P, 3, none⟩ = some (.iface 30 (.pointer (some ⟨K, 0, none⟩))) := (blk_cell h.hp 3).trans rfl
  have hl := h.len
  have hl0 : (0 : Int) ≤ (pend.length : Int) := by omega
  have hl1 : (pend.length : Int) ≤ 4096 := by omega
  have hl2 : (0 : Int) < (pend.length : Int) := by omega
  have hne : ((pend.length : Int) == 0) = false := by rw [beq_eq_false_iff_ne]; omega
  have H := Lib.hid h
  clear h
  have hme := method_write
  go_enter Tryd.func13, Tryd.ntmps13
  go_wp2
  go_region_held3 (fun w' => w'.cell? ⟨P, 1, none⟩ = some (.slice (some ⟨Q, 0, none⟩) 4096 4096) ∧ w'.cell? ⟨P, 2, none⟩ = some (.int .i64 (pend.length : Int)) ∧ w'.cell? ⟨P, 3, none⟩ = some (.iface 30 (.pointer (some ⟨K, 0, none⟩)))) (first | go_keep | exact hS3) ((go_at_call 46; refine (sink_fail (B := B) (vg := vg) (got := got) _ _ ?_).mono ?_; (exact ⟨H.out.sink.hk, H.out.sink.own, H.out.sink.kB, H.out.sink.sz⟩); rintro e w1 ⟨a, rfl, hS, hF⟩; have hS3 := keepP0 H.out (frw hF) p1 p2 p3))
  have hF' := frw hF
  have hp1 := hF'.keepBlk H.out.hp (fun f => f)
  have g0 : w1.cell? ⟨P, 0, none⟩ = some .nilIface := (blk_cell hp1 0).trans rfl
  have f0 : w1.frozen? ⟨P, 0, none⟩ = false := blk_free hp1 0
  have g2 : w1.cell? ⟨P, 2, none⟩ = some (.int .i64 (pend.length : Int)) := (blk_cell hp1 2).trans rfl
  have f2 : w1.frozen? ⟨P, 2, none⟩ = false := blk_free hp1 2
  obtain ⟨cur, hq1, hq2, hq3⟩ := H.out.hq
  have HP : Hid (BwAt B P Q K true (.iface 75 (.pointer (some a))) pend got vg ((w1.setCell ⟨P, 2, none⟩ (.int .i64 (pend.length : Int))).setCell ⟨P, 0, none⟩ (.iface 75 (.pointer (some a)))) ∧ Fr (fun k => k = P) w ((w1.setCell ⟨P, 2, none⟩ (.int .i64 (pend.length : Int))).setCell ⟨P, 0, none⟩ (.iface 75 (.pointer (some a))))) := by
    refine ⟨⟨⟨(blk_set_ne (fun e => H.out.dst.2.1 e.symm) _ _).trans ((blk_set_ne (fun e => H.out.dst.2.1 e.symm) _ _).trans hS), ownsRow_setCell_below (ownsRow_setCell_below (hF'.keepOwn H.out.sink.own (fun _ _ f => f)) H.out.dst.2.2.2.1 _) H.out.dst.2.2.2.1 _, H.out.sink.kB, by rw [size_set, size_set]; have := hF'.size; have := H.out.sink.sz; omega⟩, by rw [blk_set (blk_set hp1 2 _) 0]; rfl, ⟨cur, (blk_set_ne (fun e => H.out.dst.1 e.symm) _ _).trans ((blk_set_ne (fun e => H.out.dst.1 e.symm) _ _).trans (hF'.keepBlk hq1 (fun f => f))), hq2, hq3⟩, H.out.len, H.out.dst⟩, ?_⟩
    exact Fr.setCell (S := fun k => k = P) (Fr.setCell (S := fun k => k = P) (hF'.mono (fun k f => f.elim)) ⟨P, 2, none⟩ _ (fun _ => rfl)) ⟨P, 0, none⟩ _ (fun _ => rfl)
  clear hF hF' hp1 hq1 hq2 hq3 hS hS3 H
  go_wp2
  go_ret
  exact ⟨a, rfl, HP.out.1, HP.out.2⟩
end Go.Proofs.Qxb6003964aDoor
