/-
  (*bufio.Writer).Write over the law's sink, for short texts.
-/
import Derived.Test.Qxb6003964aDoorFlush
import Derived.Laws.CopyOwn
namespace Go.Proofs.Qxb6003964aDoor
open Go.ChangeShapes Go.WideShapes Go.ChangeAt Go.RowKit
open Go.Lib (byteCells)

theorem fr_setRow (w : World) (g : Nat) (c : Array Value) : Fr (fun k => k = g) w (w.setRow g c) :=
  ⟨rfl, rfl, rfl, by simp, fun k _ hk => setRow_other w g k _ hk⟩

/-- 'copy' into a row of the call's own as one step of a region that draws, with the exact frame. -/
theorem step_copy_fr {P : Program} {ops : Array Oper} {o : Oper} {a : Act} {w : World} {K : Act → World → Prop} {Q : Exit → Act → World → Prop} {E : Prop} (hgd : o.guard = none) (d s : Operand) (dT sT : TypeId)
    (ho : o.op = .call { callee := .builtin .copy, args := #[d, s], argTypes := #[dT, sT] }) (elem : TypeId) (hu : P.underlying dT = some (.slice elem)) (hsz : (P.info? elem).map (·.size) = some 1)
    (dp sp : Option Addr) (dLen dCap sLen sCap : Nat) (hd : a.eval d = .slice dp dLen dCap) (hs : a.eval s = .slice sp sLen sCap)
    (g off : Nat) (cur : List Value) (t : TypeId) (hg : w.heap[g]? = some (.cells cur.toArray t (0, 0))) (cs : List Value) (hn : cs.length = Nat.min sLen dLen)
    (hpos : 0 < cs.length → dp = some ⟨g, off, none⟩ ∧ ∃ ad, sp = some ad ∧ ∀ j v, cs[j]? = some v → w.cell? (ad.add j) = some v)
    (hfit : off + cs.length ≤ cur.length) (h1 : ∀ v ∈ cs, v.oneCell' = true)
    (h : ∀ w', Hid (w'.heap[g]? = some (.cells (splice cur off cs).toArray t (0, 0))) → Fr (fun k => k = g) w w' → K (a.put o.dst (goInt cs.length)) w') :
    if Region.wanted o (yielded ops a.tmps) = true then Oper.wp P o a w K Q else E := by
  have hw : Region.wanted o (yielded ops a.tmps) = true := by simp [Region.wanted, hgd]
  rw [if_pos hw]
  by_cases h0 : cs.length = 0
  · obtain rfl : cs = [] := List.eq_nil_of_length_eq_zero h0
    have hrun := run_copy_none (P := P) w dT sT o.type elem dp sp dLen dCap sLen sCap hu hsz (by simpa using hn.symm)
    unfold Oper.wp
    simp [execOp, ho, resolve, invoke, builtin, hd, hs, hrun, Result.andThen]
    exact h w (show _ = _ by simpa [splice] using hg) (Fr.refl _ _)
  · obtain ⟨rfl, ad, rfl, hsrc⟩ := hpos (by omega)
    have hrun := run_copy_row (P := P) w dT sT o.type elem g off dLen dCap ad sLen sCap cur.toArray t cs hu hsz hg hn hsrc (by simpa using hfit) h1
    unfold Oper.wp
    simp [execOp, ho, resolve, invoke, builtin, hd, hs, hrun, Result.andThen]
    exact h _ (show _ = _ by simpa [splice] using setRow_heap w g _ _ t _ hg) (fr_setRow w g _)

variable {B P Q K : Nat} {err vg : Value} {pend got : List UInt8} {w : World}

theorem avail_any {fail : Bool} (h : BwAt B P Q K fail err pend got vg w) :
    Calls Tryd.prog 17 #[.pointer (some ⟨P, 0, none⟩)] w fun e w' => e = .returned (.int .i64 (4096 - (pend.length : Int))) ∧ ∃ m, w' = w.drewN m := by
  have p1 : w.cell? ⟨P, 1, none⟩ = some (.slice (some ⟨Q, 0, none⟩) 4096 4096) := (blk_cell h.hp 1).trans rfl
  have p2 : w.cell? ⟨P, 2, none⟩ = some (.int .i64 (pend.length : Int)) := (blk_cell h.hp 2).trans rfl
  have hl := h.len
  clear h
  go_enter Tryd.func17, Tryd.ntmps17
  go_wp2
  go_quiet (fail)
  go_wp2
  go_ret
  exact ⟨rfl, _, rfl⟩

theorem buffered_any {fail : Bool} (h : BwAt B P Q K fail err pend got vg w) :
    Calls Tryd.prog 18 #[.pointer (some ⟨P, 0, none⟩)] w fun e w' => e = .returned (.int .i64 (pend.length : Int)) ∧ w' = w := by
  have p2 : w.cell? ⟨P, 2, none⟩ = some (.int .i64 (pend.length : Int)) := (blk_cell h.hp 2).trans rfl
  clear h
  go_enter Tryd.func18, Tryd.ntmps18
  go_wp2
  go_ret
  exact ⟨rfl, rfl⟩

theorem BwAt.drewN {fail : Bool} (h : BwAt B P Q K fail err pend got vg w) (m : Nat) : BwAt B P Q K fail err pend got vg (w.drewN m) :=
  ⟨⟨h.sink.hk, h.sink.own, h.sink.kB, h.sink.sz⟩, h.hp, h.hq, h.len, h.dst⟩

/-- There is room: the text is buffered. -/
def RoomPost (B P Q K : Nat) (fail : Bool) (pend got bs : List UInt8) (vg : Value) (w w' : World) : Prop := BwAt B P Q K fail .nilIface (pend ++ bs) got vg w' ∧ Fr (fun k => k = P ∨ k = Q) w w'

/-- b.n is raised behind the copy. -/
theorem room_step {fail : Bool} {w w1 : World} {bs : List UInt8} {cur : Array Value} (h : BwAt B P Q K fail .nilIface pend got vg w) (hq : w.heap[Q]? = some (.cells cur 5 (0, 0))) (hq2 : cur.size = 4096) (hq3 : cur.toList.take pend.length = byteCells pend)
    (hlen : pend.length + bs.length ≤ 4096) (hg1 : w1.heap[Q]? = some (.cells (splice cur.toList pend.length (byteCells bs)).toArray 5 (0, 0))) (hF : Fr (fun k => k = Q) w w1) :
    RoomPost B P Q K fail pend got bs vg w (w1.setCell ⟨P, 2, none⟩ (.int .i64 ((pend.length : Int) + (bs.length : Int)))) := by
  have hp1 := hF.keepBlk h.hp h.dst.1
  have hnK : ∀ g, vg.ownBlock = some g → ¬ g = Q := fun g hg e => by subst e; have := (h.sink.own.lt g hg).1; have := h.dst.2.2.2.2; omega
  refine ⟨⟨⟨(blk_set_ne (fun e => h.dst.2.1 e.symm) _ _).trans (hF.keepBlk h.sink.hk (fun e => h.dst.2.2.1 e.symm)), ownsRow_setCell_below (hF.keepOwn h.sink.own hnK) h.dst.2.2.2.1 _, h.sink.kB, by rw [size_set]; have := hF.size; have := h.sink.sz; omega⟩, ?_, ⟨_, (blk_set_ne (fun e => h.dst.1 e.symm) _ _).trans hg1, ?_, ?_⟩, by rw [List.length_append]; exact hlen, h.dst⟩, ?_⟩
  · rw [blk_set hp1 2, List.length_append, Int.natCast_add]; rfl
  · rw [List.size_toArray, length_splice _ _ _ (by rw [byteCells_len]; have : cur.toList.length = cur.size := rfl; omega)]; exact hq2
  · rw [List.length_append, byteCells_append]
    show List.take (pend.length + bs.length) (splice cur.toList pend.length (byteCells bs)) = _
    unfold splice
    rw [hq3, ← List.append_assoc, List.take_left']
    rw [List.length_append, byteCells_len, byteCells_len]
  · exact Fr.setCell (S := fun k => k = P ∨ k = Q) (hF.mono (fun k hk => .inr hk)) ⟨P, 2, none⟩ _ (fun _ => .inl rfl)

theorem size5 : (Tryd.prog.info? 5).map (·.size) = some 1 := by kernel_rfl
theorem cp_len {bs : List UInt8} (hlen : pend.length + bs.length ≤ 4096) : (byteCells bs).length = Nat.min bs.length (4096 - pend.length) := by
  rw [byteCells_len]; exact (Nat.min_eq_left (by omega)).symm
theorem cp_fit {bs : List UInt8} {cur : Array Value} (hlen : pend.length + bs.length ≤ 4096) (h : cur.size = 4096) : pend.length + (byteCells bs).length ≤ cur.toList.length := by
  rw [byteCells_len]; have : cur.toList.length = cur.size := rfl; omega
theorem cp_pos {bs : List UInt8} {ad : Addr} {off : Nat} (hb : BytesAt w ad bs) : 0 < (byteCells bs).length → some (⟨Q, off, none⟩ : Addr) = some ⟨Q, off, none⟩ ∧ ∃ ad', some ad = some ad' ∧ ∀ j v, (byteCells bs)[j]? = some v → w.cell? (ad'.add j) = some v :=
  fun _ => ⟨rfl, ad, rfl, hb⟩
theorem keepP2 {w w1 : World} {m : Nat} {x1 x2 : Value} {fail : Bool} (h : BwAt B P Q K fail err pend got vg w) (hF : Fr (fun k => k = Q) (w.drewN m) w1) (p1 : w.cell? ⟨P, 1, none⟩ = some x1) (p2 : w.cell? ⟨P, 2, none⟩ = some x2) :
    w1.cell? ⟨P, 1, none⟩ = some x1 ∧ w1.cell? ⟨P, 2, none⟩ = some x2 :=
  have hl := blk_lt h.hp
  ⟨(hF.cell (p := ⟨P, 1, none⟩) hl h.dst.1).trans p1, (hF.cell (p := ⟨P, 2, none⟩) hl h.dst.1).trans p2⟩

theorem frwN {S : Nat → Prop} {w w1 : World} {k : Nat} (h : Fr S (w.drewN k) w1) : Fr S w w1 := ⟨h.os, h.tape, h.output, h.size, h.block⟩
/-- The buffer behind the copy. -/
def newRow (cur : Array Value) (pend bs : List UInt8) : Array Value := (splice cur.toList pend.length (byteCells bs)).toArray
theorem copy_run {cur : Array Value} {bs : List UInt8} {ad : Addr} (hq : w.heap[Q]? = some (.cells cur 5 (0, 0))) (hq2 : cur.size = 4096) (hb : BytesAt w ad bs) (hlen : pend.length + bs.length ≤ 4096) (c : Nat) :
    ∀ k, (Builtin.copy_ #[23, 23] 3 #[.slice (some ⟨Q, pend.length, none⟩) (4096 - pend.length) (4096 - pend.length), .slice (some ad) bs.length c]).run Tryd.prog (w.drewN k) = .ok (.int .i64 (bs.length : Int)) ((w.drewN k).setRow Q (newRow cur pend bs)) := by
  intro k
  have := run_copy_row (P := Tryd.prog) (w.drewN k) 23 23 3 5 Q pend.length (4096 - pend.length) (4096 - pend.length) ad bs.length c cur 5 (byteCells bs) Tryd.underlying23 size5 hq (cp_len hlen) hb (by rw [byteCells_len]; omega) (byteCells_one bs)
  rw [this, List.append_assoc, byteCells_len]
  simp only [newRow, splice, byteCells_len]
  rfl

set_option maxRecDepth 100000 in
set_option maxHeartbeats 1000000 in
theorem bwrite_room {fail : Bool} (bs : List UInt8) (ad : Addr) (c : Nat) (h : BwAt B P Q K fail .nilIface pend got vg w) (hb : BytesAt w ad bs) (hlen : pend.length + bs.length ≤ 4096) (hbp : 0 < bs.length) :
    Calls Tryd.prog 12 #[.pointer (some ⟨P, 0, none⟩), .slice (some ad) bs.length c] w fun e w' => e = .returned (.tuple #[.int .i64 (bs.length : Int), .nilIface]) ∧ RoomPost B P Q K fail pend got bs vg w w' := by
  have p0 : w.cell? ⟨P, 0, none⟩ = some .nilIface := (blk_cell h.hp 0).trans rfl
  have p1 : w.cell? ⟨P, 1, none⟩ = some (.slice (some ⟨Q, 0, none⟩) 4096 4096) := (blk_cell h.hp 1).trans rfl
  have p2 : w.cell? ⟨P, 2, none⟩ = some (.int .i64 (pend.length : Int)) := (blk_cell h.hp 2).trans rfl
  have hl := h.len
  have hl0 : (0 : Int) ≤ (pend.length : Int) := by omega
  have hl1 : (pend.length : Int) ≤ 4096 := by omega
  have hl2 : (pend.length : Int) < 4096 := by omega
  have hl3 : pend.length < 4096 := by omega
  have hl4 : ¬ 4096 - pend.length = 0 := by omega
  have hgd : ¬ 4096 - (pend.length : Int) < (bs.length : Int) := by omega
  have hgd2 : decide (4096 - (pend.length : Int) < (bs.length : Int)) = false := decide_eq_false hgd
  have H := Lib.hid h
  have HB := Lib.hid hb
  clear h hb
  go_enter Tryd.func12, Tryd.ntmps12
  go_wp2
  refine wp_loop_rounds 1 ?_
  rw [rounds_succ]
  go_wp2_with (go_at_call 17; refine (avail_any H.out).mono ?_; rintro e w1 ⟨rfl, m, rfl⟩)
  obtain ⟨cur, hq1, hq2, hq3⟩ := H.out.hq
  have Hq : Hid (w.heap[Q]? = some (.cells cur 5 (0, 0)) ∧ cur.size = 4096 ∧ cur.toList.take pend.length = byteCells pend) := ⟨hq1, hq2, hq3⟩
  clear hq1 hq2 hq3
  have hcp := copy_run Hq.out.1 Hq.out.2.1 HB.out hlen c
  have hk1 : ∀ k, ((w.drewN k).setRow Q (newRow cur pend bs)).cell? ⟨P, 1, none⟩ = some (.slice (some ⟨Q, 0, none⟩) 4096 4096) := fun k => (keepP2 (m := k) H.out (fr_setRow _ Q _) p1 p2).1
  have hk2 : ∀ k, ((w.drewN k).setRow Q (newRow cur pend bs)).cell? ⟨P, 2, none⟩ = some (.int .i64 (pend.length : Int)) := fun k => (keepP2 (m := k) H.out (fr_setRow _ Q _) p1 p2).2
  go_region_held3 (fun w' => w'.cell? ⟨P, 1, none⟩ = some (.slice (some ⟨Q, 0, none⟩) 4096 4096) ∧ w'.cell? ⟨P, 2, none⟩ = some (.int .i64 (pend.length : Int))) (first | go_keep | exact ⟨hk1 _, hk2 _⟩) (fail)
  have hk3 : ∀ k, ((w.drewN k).setRow Q (newRow cur pend bs)).frozen? ⟨P, 2, none⟩ = false := fun k => blk_free ((fr_setRow (w.drewN k) Q _).keepBlk H.out.hp H.out.dst.1) 2
  have HP : ∀ k, Hid (RoomPost B P Q K fail pend got bs vg w (((w.drewN k).setRow Q (newRow cur pend bs)).setCell ⟨P, 2, none⟩ (.int .i64 ((pend.length : Int) + (bs.length : Int))))) := fun k =>
    room_step H.out Hq.out.1 Hq.out.2.1 Hq.out.2.2 hlen (setRow_heap (w.drewN k) Q cur _ 5 _ Hq.out.1) (frwN (fr_setRow (w.drewN k) Q _))
  clear hcp H HB Hq
  go_wp2
  go_ret2
  exact ⟨rfl, (HP _).out⟩
end Go.Proofs.Qxb6003964aDoor
