/-
  (*bufio.Writer).Write over the law's sink: every short text.
-/
import Derived.Test.Qxb6003964aDoorBw
import Derived.Deep.LoopGhost
namespace Go.Proofs.Qxb6003964aDoor
open Go.ChangeShapes Go.WideShapes Go.ChangeAt Go.RowKit
open Go.Lib (byteCells)
variable {B P Q K : Nat} {err vg : Value} {pend got : List UInt8} {w : World}

def WPost (E : Prop) (B P Q K : Nat) (fail : Bool) (pend got bs : List UInt8) (vg : Value) (w : World) (e : Ending) (w' : World) : Prop :=
  ∃ x y err' pend' got' vg', e = .returned (.tuple #[x, y]) ∧ BwAt B P Q K fail err' pend' got' vg' w' ∧ Near w vg vg' ∧ Fr (fun k => k = P ∨ k = Q ∨ k = K ∨ vg.ownBlock = some k) w w' ∧
    ((err' = .nilIface ∧ got' ++ pend' = got ++ pend ++ bs ∧ (fail = true → got' = got) ∧ E) ∨ (fail = true ∧ ∃ a, err' = .iface 75 (.pointer (some a))))

theorem Near.refl (w : World) (v : Value) : Near w v v := .inl rfl
theorem Near.trans {w w1 : World} {a b c : Value} (h : Near w a b) (k : Near w1 b c) (hs : w.heap.size ≤ w1.heap.size) : Near w a c := by
  rcases k with e | ⟨g, e, hg⟩
  · rcases h with e' | ⟨g, e', hg⟩
    · exact .inl (e.trans e')
    · exact .inr ⟨g, e.trans e', hg⟩
  · exact .inr ⟨g, e, by omega⟩

/-- The loop's head: gk = 1: as at the start, no room; gk = 0: room, or an error. -/
def Head (E : Prop) (B P Q K : Nat) (fail : Bool) (pend got bs : List UInt8) (vg : Value) (ad : Addr) (c : Nat) (w : World) (gk : Nat) (p : Value) (wr : World) : Prop :=
  ∃ (err' : Value) (pend' got' bs' : List UInt8) (vg' : Value) (ad' : Addr) (c' : Nat), p = .slice (some ad') bs'.length c' ∧ BwAt B P Q K fail err' pend' got' vg' wr ∧ BytesAt wr ad' bs' ∧ 0 < bs'.length ∧ bs'.length ≤ 64 ∧ Near w vg vg' ∧
    Fr (fun k => k = P ∨ k = Q ∨ k = K ∨ vg.ownBlock = some k) w wr ∧
    ((gk = 1 ∧ E ∧ err' = .nilIface ∧ 4096 < pend'.length + bs'.length ∧ pend = pend' ∧ got = got' ∧ bs = bs' ∧ vg = vg' ∧ ad' = ad ∧ c' = c ∧ wr = w) ∨
     (gk = 0 ∧ ((err' = .nilIface ∧ pend'.length + bs'.length ≤ 4096 ∧ got' ++ pend' ++ bs' = got ++ pend ++ bs ∧ (fail = true → got' = got) ∧ E) ∨ (fail = true ∧ ∃ a, err' = .iface 75 (.pointer (some a))))))

theorem take_bytes {bs : List UInt8} {ad : Addr} (hb : BytesAt w ad bs) (n : Nat) : BytesAt w ad (bs.take n) := by
  intro j u hj
  apply hb
  unfold byteCells at hj ⊢
  rw [List.map_take, List.getElem?_take] at hj
  by_cases h : j < n
  · rwa [if_pos h] at hj
  · rw [if_neg h] at hj; exact absurd hj (by simp)

theorem copy_part {cur : Array Value} {bs : List UInt8} {ad : Addr} (hq : w.heap[Q]? = some (.cells cur 5 (0, 0))) (hq2 : cur.size = 4096) (hb : BytesAt w ad bs) (hle : 4096 - pend.length ≤ bs.length) (hl : pend.length ≤ 4096) (c : Nat) :
    ∀ k, (Builtin.copy_ #[23, 23] 3 #[.slice (some ⟨Q, pend.length, none⟩) (4096 - pend.length) (4096 - pend.length), .slice (some ad) bs.length c]).run Tryd.prog (w.drewN k) = .ok (.int .i64 ((4096 - pend.length : Nat) : Int)) ((w.drewN k).setRow Q (newRow cur pend (bs.take (4096 - pend.length)))) := by
  intro k
  have ht : (bs.take (4096 - pend.length)).length = 4096 - pend.length := by rw [List.length_take]; omega
  have := run_copy_row (P := Tryd.prog) (w.drewN k) 23 23 3 5 Q pend.length (4096 - pend.length) (4096 - pend.length) ad bs.length c cur 5 (byteCells (bs.take (4096 - pend.length))) Tryd.underlying23 size5 hq (by rw [byteCells_len, ht]; exact (Nat.min_eq_right hle).symm) (take_bytes hb _) (by rw [byteCells_len, ht]; omega) (byteCells_one _)
  rw [this, List.append_assoc, byteCells_len, ht]
  simp only [newRow, splice, byteCells_len, ht]
  rfl

def FlPost (B P Q K : Nat) (fail : Bool) (pend got : List UInt8) (vg : Value) (w : World) (e : Ending) (w' : World) : Prop :=
  ∃ x err' pend' got' vg', e = .returned x ∧ BwAt B P Q K fail err' pend' got' vg' w' ∧ Near w vg vg' ∧ Fr (fun k => k = P ∨ k = K ∨ vg.ownBlock = some k) w w' ∧
    ((fail = false ∧ err' = .nilIface ∧ pend' = [] ∧ got' = got ++ pend) ∨ (fail = true ∧ ∃ a, err' = .iface 75 (.pointer (some a))))

theorem fl_step {fail : Bool} (h : BwAt B P Q K fail .nilIface pend got vg w) (hpos : 0 < pend.length) (hlim : got.length + pend.length ≤ 1073741824) :
    Calls Tryd.prog 13 #[.pointer (some ⟨P, 0, none⟩)] w fun e w' => FlPost B P Q K fail pend got vg w e w' := by
  cases fail
  · refine (flush_ok h hpos hlim).mono ?_
    rintro e w' ⟨rfl, vg', h1, h2, h3⟩
    exact ⟨_, _, _, _, vg', rfl, h1, h2, h3, .inl ⟨rfl, rfl, rfl, rfl⟩⟩
  · refine (flush_fail h hpos).mono ?_
    rintro e w' ⟨a, rfl, h1, h2⟩
    exact ⟨_, _, _, _, vg, rfl, h1, Near.refl _ _, h2.mono (fun k hk => .inl hk), .inr ⟨rfl, a, rfl⟩⟩

theorem head_next {fail : Bool} {bs : List UInt8} {gl c0 c1 : Nat} {ad0 : Addr} {w2 w3 : World} {e : Ending} (hb : BytesAt w ⟨gl, 0, none⟩ bs) (hb64 : bs.length ≤ 64) (hno : 4096 < pend.length + bs.length)
    (hdis : gl ≠ P ∧ gl ≠ Q ∧ gl ≠ K ∧ vg.ownBlock ≠ some gl ∧ gl < w.heap.size) (h2 : RoomPost B P Q K fail pend got (bs.take (4096 - pend.length)) vg w w2)
    (h3 : FlPost B P Q K fail (pend ++ bs.take (4096 - pend.length)) got vg w2 e w3) (he0 : err = .nilIface) :
    Head (err = .nilIface) B P Q K fail pend got bs vg ad0 c0 w 0 (.slice (some ⟨gl, 4096 - pend.length, none⟩) (bs.drop (4096 - pend.length)).length c1) w3 := by
  obtain ⟨hB2, hF2⟩ := h2
  obtain ⟨x, err', pend', got', vg', -, hB3, hN, hF3, hc⟩ := h3
  have hF : Fr (fun k => k = P ∨ k = Q ∨ k = K ∨ vg.ownBlock = some k) w w3 :=
    (hF2.mono (fun k hk => hk.elim .inl (fun h => .inr (.inl h)))).trans (hF3.mono (fun k hk => by rcases hk with h | h | h <;> simp [h]))
  have hdl : (bs.drop (4096 - pend.length)).length = bs.length - (4096 - pend.length) := List.length_drop
  have hlen := hB2.len
  rw [List.length_append] at hlen
  refine ⟨err', pend', got', bs.drop (4096 - pend.length), vg', ⟨gl, 4096 - pend.length, none⟩, c1, rfl, hB3, ?_, by omega, by omega, ?_, hF, .inr ⟨rfl, ?_⟩⟩
  · intro j u hj
    have hj' : (byteCells bs)[4096 - pend.length + j]? = some u := by
      rw [← hj]; unfold byteCells; rw [List.map_drop, List.getElem?_drop]
    have := hb _ _ hj'
    rw [add_plain] at this ⊢
    rw [Nat.zero_add] at this
    refine (hF.cell (p := ⟨gl, 4096 - pend.length + j, none⟩) hdis.2.2.2.2 ?_).trans this
    rintro (e | e | e | e)
    · exact hdis.1 e
    · exact hdis.2.1 e
    · exact hdis.2.2.1 e
    · exact hdis.2.2.2.1 e
  · exact Near.trans (Near.refl _ _) hN hF2.size
  · rcases hc with ⟨hff, rfl, rfl, rfl⟩ | hc
    · refine .inl ⟨rfl, by simp; omega, ?_, fun h => absurd (hff.symm.trans h) (by simp), he0⟩
      simp [List.append_assoc, List.take_append_drop]
    · exact .inr hc

set_option maxRecDepth 100000 in
set_option maxHeartbeats 4000000 in
theorem bwrite_any {fail : Bool} (bs : List UInt8) (gl : Nat) (c : Nat) (hcb : bs.length ≤ c) (h : BwAt B P Q K fail err pend got vg w) (herr : err = .nilIface ∨ (fail = true ∧ ∃ a, err = .iface 75 (.pointer (some a)))) (hb : BytesAt w ⟨gl, 0, none⟩ bs) (hbp : 0 < bs.length) (hb64 : bs.length ≤ 64) (hlim : err = .nilIface → got.length ≤ 16777216)
    (hdis : gl ≠ P ∧ gl ≠ Q ∧ gl ≠ K ∧ vg.ownBlock ≠ some gl ∧ gl < w.heap.size) :
    Calls Tryd.prog 12 #[.pointer (some ⟨P, 0, none⟩), .slice (some ⟨gl, 0, none⟩) bs.length c] w fun e w' => WPost (err = .nilIface) B P Q K fail pend got bs vg w e w' := by
  have H := Lib.hid h
  have HB := Lib.hid hb
  have HD := Lib.hid hdis
  have hl := h.len
  clear h hb hdis
  obtain ⟨gk0, Hst⟩ : ∃ gk0, Hid (Head (err = .nilIface) B P Q K fail pend got bs vg ⟨gl, 0, none⟩ c w gk0 (.slice (some ⟨gl, 0, none⟩) bs.length c) w) := by
    rcases herr with rfl | ⟨hf, a, rfl⟩
    · by_cases hr : pend.length + bs.length ≤ 4096
      · exact ⟨0, .nilIface, pend, got, bs, vg, ⟨gl, 0, none⟩, c, rfl, H.out, HB.out, hbp, hb64, Near.refl _ _, Fr.refl _ _, .inr ⟨rfl, .inl ⟨rfl, hr, rfl, fun _ => rfl, rfl⟩⟩⟩
      · exact ⟨1, .nilIface, pend, got, bs, vg, ⟨gl, 0, none⟩, c, rfl, H.out, HB.out, hbp, hb64, Near.refl _ _, Fr.refl _ _, .inl ⟨rfl, rfl, rfl, by omega, rfl, rfl, rfl, rfl, rfl, rfl, rfl⟩⟩
    · exact ⟨0, _, pend, got, bs, vg, ⟨gl, 0, none⟩, c, rfl, H.out, HB.out, hbp, hb64, Near.refl _ _, Fr.refl _ _, .inr ⟨rfl, .inr ⟨hf, a, rfl⟩⟩⟩
  go_enter Tryd.func12, Tryd.ntmps12
  go_wp2
  go_loopg [1, 4] gk0 (fun gk p nn wr => (∃ x : Int, 0 ≤ x ∧ x ≤ 64 * (2 - (gk : Int)) ∧ nn = .int .i64 x) ∧ Head (err = .nilIface) B P Q K fail pend got bs vg ⟨gl, 0, none⟩ c w gk p wr)
  case atStart => exact ⟨⟨0, by omega, by rcases Hst.out with ⟨_, _, _, _, _, _, _, _, _, _, _, _, _, _, h | h⟩ <;> (have := h.1; omega), rfl⟩, Hst.out⟩
  case round =>
    clear Hst
    obtain ⟨⟨x, hx0, hx1, rfl⟩, err', pend', got', bs', vg', ad', c', rfl, hBw, hBy, hbp', hb64', hN, hF, hcase⟩ := hrel
    have p0 : wr.cell? ⟨P, 0, none⟩ = some err' := (blk_cell hBw.hp 0).trans rfl
    have p1 : wr.cell? ⟨P, 1, none⟩ = some (.slice (some ⟨Q, 0, none⟩) 4096 4096) := (blk_cell hBw.hp 1).trans rfl
    have p2 : wr.cell? ⟨P, 2, none⟩ = some (.int .i64 (pend'.length : Int)) := (blk_cell hBw.hp 2).trans rfl
    have f2 : wr.frozen? ⟨P, 2, none⟩ = false := blk_free hBw.hp 2
    have hl' := hBw.len
    have hl0 : (0 : Int) ≤ (pend'.length : Int) := by omega
    have hl1 : (pend'.length : Int) ≤ 4096 := by omega
    obtain ⟨cur, hq1, hq2, hq3⟩ := hBw.hq
    have Hq : Hid (wr.heap[Q]? = some (.cells cur 5 (0, 0)) ∧ cur.size = 4096 ∧ cur.toList.take pend'.length = byteCells pend') := ⟨hq1, hq2, hq3⟩
    have HBw := Lib.hid hBw
    have HBy := Lib.hid hBy
    have HN := Lib.hid hN
    have HF := Lib.hid hF
    clear hq1 hq2 hq3 hBw hBy hN hF
    rcases hcase with ⟨rfl, he0, rfl, hno, rfl, rfl, rfl, rfl, rfl, rfl, rfl⟩ | ⟨rfl, ⟨rfl, hroom, htot, hfg, he0⟩ | ⟨hfl, a, rfl⟩⟩
    · -- no room: the buffer is filled and flushed
      --<C
      have hlim := hlim he0
      have He0 := Lib.hid he0
      clear he0
      have hav : 4096 - pend.length < bs.length := by omega
      have hgt : 4096 - (pend.length : Int) < (bs.length : Int) := by omega
      have hpn : ((pend.length : Int) == 0) = false := by rw [beq_eq_false_iff_ne]; omega
      have ht1 : (bs.take (4096 - pend.length)).length = 4096 - pend.length := by rw [List.length_take]; omega
      have hd1 : (bs.drop (4096 - pend.length)).length = bs.length - (4096 - pend.length) := List.length_drop
      by_cases hz : pend.length = 4096
      · have hz' : (pend.length : Int) = 4096 := by omega
        have hnx : ∀ k, Hid (RoomPost B P Q K fail pend got (bs.take (4096 - pend.length)) vg wr ((wr.drewN k).setCell ⟨P, 2, none⟩ (.int .i64 4096))) := fun k => by
          have h0 : bs.take (4096 - pend.length) = [] := by rw [hz]; rfl
          rw [h0]
          have := room_step (w1 := wr.drewN k) (bs := []) HBw.out Hq.out.1 Hq.out.2.1 Hq.out.2.2 (by simp; omega) (by rw [show splice cur.toList pend.length (byteCells []) = cur.toList by simp [splice, byteCells]]; exact Hq.out.1) ((Fr.refl _ _).drewN k)
          simp [hz'] at this
          exact this
        have hfz : ∀ k, (wr.drewN k).frozen? ⟨P, 2, none⟩ = false := fun k => f2
        go_wp2_with (first | (go_at_call 17; refine (avail_any HBw.out).mono ?_; rintro e w1 ⟨rfl, m, rfl⟩) | (go_at_call 18; refine (buffered_any (HBw.out.drewN _)).mono ?_; rintro e w1 ⟨rfl, rfl⟩))
        have hcp : ∀ k, (Builtin.copy_ #[23, 23] 3 #[.slice (some ⟨Q, 0, none⟩) 0 0, .slice (some ⟨gl, 0, none⟩) bs.length c']).run Tryd.prog (wr.drewN k) = .ok (.int .i64 0) (wr.drewN k) := fun k => run_copy_none (P := Tryd.prog) (wr.drewN k) 23 23 3 5 _ (some ⟨gl, 0, none⟩) 0 0 bs.length c' Tryd.underlying23 size5 (by simp)
        go_region_held3 (fun w' => w'.cell? ⟨P, 1, none⟩ = some (.slice (some ⟨Q, 0, none⟩) 4096 4096) ∧ w'.cell? ⟨P, 2, none⟩ = some (.int .i64 (pend.length : Int))) (first | go_keep | exact ⟨hk1 _, hk2 _⟩) (fail)
        clear hcp
        go_wp2_with (go_at_call 13; refine (fl_step (hnx _).out.1 ?_ ?_).mono ?_; (rw [List.length_append]; omega); (rw [List.length_append, ht1]; omega); intro e w3 h3; have HH := Lib.hid (head_next (ad0 := ⟨gl, 0, none⟩) (c0 := c') (c1 := c') HBy.out hb64 hno HD.out (hnx _).out h3 He0.out); obtain ⟨x3, _, _, _, _, rfl, -⟩ := h3)
        go_roundg 0
        case measure => exact Nat.lt_succ_self 0
        case rel =>
          have := HH.out
          simp only [hz, Nat.sub_self, List.drop_zero] at this
          exact ⟨⟨x, hx0, by omega, rfl⟩, this⟩
      · have hl2 : (pend.length : Int) < 4096 := by omega
        have hl3 : pend.length < 4096 := by omega
        have hl4 : ¬ 4096 - pend.length = 0 := by omega
        obtain ⟨av, hav'⟩ : ∃ av, 4096 - pend.length = av := ⟨_, rfl⟩
        have Hav := Lib.hid hav'
        rw [hav'] at hav ht1 hd1 hl4
        have hcp := copy_part Hq.out.1 Hq.out.2.1 HBy.out (by rw [hav']; exact Nat.le_of_lt hav) hl' c'
        rw [hav'] at hcp
        have hsum : (pend.length : Int) + (av : Int) = 4096 := by omega
        have hav1 : (av : Int) ≤ 64 := by omega
        have hav0 : (0 : Int) < (av : Int) := by omega
        have havb : (av : Int) ≤ (bs.length : Int) := by omega
        have hx64 : x ≤ 64 := by omega
        have hk1 : ∀ k, ((wr.drewN k).setRow Q (newRow cur pend (bs.take av))).cell? ⟨P, 1, none⟩ = some (.slice (some ⟨Q, 0, none⟩) 4096 4096) := fun k => (keepP2 (m := k) HBw.out (fr_setRow _ Q _) p1 p2).1
        have hk2 : ∀ k, ((wr.drewN k).setRow Q (newRow cur pend (bs.take av))).cell? ⟨P, 2, none⟩ = some (.int .i64 (pend.length : Int)) := fun k => (keepP2 (m := k) HBw.out (fr_setRow _ Q _) p1 p2).2
        have hnx : ∀ k, Hid (RoomPost B P Q K fail pend got (bs.take (4096 - pend.length)) vg wr (((wr.drewN k).setRow Q (newRow cur pend (bs.take av))).setCell ⟨P, 2, none⟩ (.int .i64 4096))) := fun k => by
          have := room_step (bs := bs.take av) HBw.out Hq.out.1 Hq.out.2.1 Hq.out.2.2 (by rw [ht1]; omega) (setRow_heap (wr.drewN k) Q cur _ 5 _ Hq.out.1) (frwN (fr_setRow (wr.drewN k) Q _))
          rw [ht1, hsum] at this
          rw [Hav.out]
          exact this
        clear hav'
        go_wp2_with (first | (go_at_call 17; refine (avail_any HBw.out).mono ?_; rintro e w1 ⟨rfl, m, rfl⟩) | (go_at_call 18; refine (buffered_any (HBw.out.drewN _)).mono ?_; rintro e w1 ⟨rfl, rfl⟩))
        have hav' := Hav.out
        go_region_held3 (fun w' => w'.cell? ⟨P, 1, none⟩ = some (.slice (some ⟨Q, 0, none⟩) 4096 4096) ∧ w'.cell? ⟨P, 2, none⟩ = some (.int .i64 (pend.length : Int))) (first | go_keep | exact ⟨hk1 _, hk2 _⟩) (fail)
        have hk3 : ∀ k, ((wr.drewN k).setRow Q (newRow cur pend (bs.take av))).frozen? ⟨P, 2, none⟩ = false := fun k => blk_free ((fr_setRow (wr.drewN k) Q _).keepBlk HBw.out.hp HBw.out.dst.1) 2
        clear hcp hav'
        go_wp2_with (go_at_call 13; refine (fl_step (hnx _).out.1 ?_ ?_).mono ?_; (rw [List.length_append]; omega); (rw [List.length_append, Hav.out, ht1]; omega); intro e w3 h3; have HH := Lib.hid (head_next (ad0 := ⟨gl, 0, none⟩) (c0 := c') (c1 := c' - av) HBy.out hb64 hno HD.out (hnx _).out h3 He0.out); obtain ⟨x3, _, _, _, _, rfl, -⟩ := h3)
        go_roundg 0
        case measure => exact Nat.lt_succ_self 0
        case rel =>
          have := HH.out
          rw [Hav.out, hd1] at this
          exact ⟨⟨_, by omega, by omega, rfl⟩, this⟩
      -->C
    · -- there is room
      --<A
      have Htot := Lib.hid htot
      have Hfg := Lib.hid hfg
      have hgd2 : decide (4096 - (pend'.length : Int) < (bs'.length : Int)) = false := decide_eq_false (by omega)
      have hl2 : (pend'.length : Int) < 4096 := by omega
      have hl3 : pend'.length < 4096 := by omega
      have hl4 : ¬ 4096 - pend'.length = 0 := by omega
      clear htot hfg
      go_wp2_with (go_at_call 17; refine (avail_any HBw.out).mono ?_; rintro e w1 ⟨rfl, m, rfl⟩)
      have hcp := copy_run Hq.out.1 Hq.out.2.1 HBy.out hroom c'
      have hk1 : ∀ k, ((wr.drewN k).setRow Q (newRow cur pend' bs')).cell? ⟨P, 1, none⟩ = some (.slice (some ⟨Q, 0, none⟩) 4096 4096) := fun k => (keepP2 (m := k) HBw.out (fr_setRow _ Q _) p1 p2).1
      have hk2 : ∀ k, ((wr.drewN k).setRow Q (newRow cur pend' bs')).cell? ⟨P, 2, none⟩ = some (.int .i64 (pend'.length : Int)) := fun k => (keepP2 (m := k) HBw.out (fr_setRow _ Q _) p1 p2).2
      go_region_held3 (fun w' => w'.cell? ⟨P, 1, none⟩ = some (.slice (some ⟨Q, 0, none⟩) 4096 4096) ∧ w'.cell? ⟨P, 2, none⟩ = some (.int .i64 (pend'.length : Int))) (first | go_keep | exact ⟨hk1 _, hk2 _⟩) (fail)
      have hk3 : ∀ k, ((wr.drewN k).setRow Q (newRow cur pend' bs')).frozen? ⟨P, 2, none⟩ = false := fun k => blk_free ((fr_setRow (wr.drewN k) Q _).keepBlk HBw.out.hp HBw.out.dst.1) 2
      have HP : ∀ k y, Hid (WPost (err = .nilIface) B P Q K fail pend got bs vg w (.returned (.tuple #[.int .i64 y, .nilIface])) (((wr.drewN k).setRow Q (newRow cur pend' bs')).setCell ⟨P, 2, none⟩ (.int .i64 ((pend'.length : Int) + (bs'.length : Int))))) := fun k y => by
        obtain ⟨r1, r2⟩ := room_step HBw.out Hq.out.1 Hq.out.2.1 Hq.out.2.2 hroom (setRow_heap (wr.drewN k) Q cur _ 5 _ Hq.out.1) (frwN (fr_setRow (wr.drewN k) Q _))
        refine ⟨_, _, .nilIface, pend' ++ bs', got', vg', rfl, r1, HN.out, ?_, .inl ⟨rfl, by rw [← List.append_assoc]; exact Htot.out, Hfg.out, he0⟩⟩
        exact HF.out.trans (r2.mono (fun i hi => hi.elim .inl (fun h => .inr (.inl h))))
      clear hcp HBw HBy Hq hk1 HN HF Htot Hfg H HB HD
      go_wp2
      go_ret2
      exact (HP _ _).out
      -->A
    · -- an error is kept
      --<B
      subst hfl
      have HP : ∀ k k2 y, Hid (WPost (err = .nilIface) B P Q K true pend got bs vg w (.returned (.tuple #[.int .i64 y, .iface 75 (.pointer (some a))])) ((wr.drewN k).drewN k2)) := fun k k2 y =>
        ⟨_, _, _, pend', got', vg', rfl, (HBw.out.drewN k).drewN k2, HN.out, (HF.out.drewN k).drewN k2, .inr ⟨rfl, a, rfl⟩⟩
      by_cases hgt : 4096 - (pend'.length : Int) < (bs'.length : Int)
      · go_wp2_with (go_at_call 17; refine (avail_any HBw.out).mono ?_; rintro e w1 ⟨rfl, m, rfl⟩)
        go_quiet (fail)
        clear HBw HBy Hq HN HF H HB HD
        go_wp2
        go_ret2
        exact (HP _ _ x).out
      · have hgd2 : decide (4096 - (pend'.length : Int) < (bs'.length : Int)) = false := decide_eq_false hgt
        go_wp2_with (go_at_call 17; refine (avail_any HBw.out).mono ?_; rintro e w1 ⟨rfl, m, rfl⟩)
        go_quiet (fail)
        clear HBw HBy Hq HN HF H HB HD
        go_wp2
        go_ret2
        exact (HP _ _ x).out
      -->B
end Go.Proofs.Qxb6003964aDoor
