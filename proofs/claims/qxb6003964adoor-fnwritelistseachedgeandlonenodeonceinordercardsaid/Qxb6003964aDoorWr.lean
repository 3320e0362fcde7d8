/-
  graph.Write over the law's sink.
-/
import Derived.Test.Qxb6003964aDoorGr
namespace Go.Proofs.Qxb6003964aDoor
open Go.ChangeShapes Go.WideShapes Go.ChangeAt Go.RowKit
open Go.Lib (byteCells decDigits)

def lineOf (I A : Nat → Nat) (i k : Nat) : List UInt8 := if i < A k then decDigits (I i) ++ (32 :: decDigits (I (A k))) ++ [10] else []
/-- The lines of node i for k entries of the adjacency from place o. -/
def innerText (I A : Nat → Nat) (i o : Nat) : Nat → List UInt8
  | 0 => []
  | k + 1 => innerText I A i o k ++ lineOf I A i (o + k)
def nodeText (I F A : Nat → Nat) (i : Nat) : List UInt8 := if F (i + 1) = F i then decDigits (I i) ++ [10] else innerText I A i (F i) (F (i + 1) - F i)
def textOf (I F A : Nat → Nat) : Nat → List UInt8
  | 0 => []
  | i + 1 => textOf I F A i ++ nodeText I F A i

section
variable {n m c : Nat} {I F A : Nat → Nat}
theorem lineOf_len (ok : GrOK n m c I F A) {i k : Nat} (hi : i < n) (hk : k < m) : (lineOf I A i k).length ≤ 41 := by
  unfold lineOf
  split
  · have := dec_len (ok.I63 i hi); have := dec_len (ok.I63 _ (ok.An k hk)); simp; omega
  · simp
theorem innerText_len (ok : GrOK n m c I F A) {i o : Nat} (hi : i < n) : ∀ k, o + k ≤ m → (innerText I A i o k).length ≤ 41 * k
  | 0, _ => by simp [innerText]
  | k + 1, h => by
    have := innerText_len ok (o := o) hi k (by omega)
    have := lineOf_len ok hi (k := o + k) (by omega)
    rw [innerText, List.length_append]; omega
theorem textOf_len (ok : GrOK n m c I F A) : ∀ i, i ≤ n → (textOf I F A i).length ≤ 41 * (i + F i)
  | 0, _ => by simp [textOf]
  | i + 1, h => by
    have h1 := textOf_len ok i (by omega)
    have h2 := ok.Fup i h
    have h3 := ok.Fm (i + 1) h
    rw [textOf, List.length_append, nodeText]
    split
    · have := dec_len (ok.I63 i h); simp; omega
    · have := innerText_len ok (o := F i) h (F (i + 1) - F i) (by omega); omega
theorem text_lim (ok : GrOK n m c I F A) {i k : Nat} (hi : i < n) (hk : F i + k ≤ m) : (textOf I F A i ++ innerText I A i (F i) k).length ≤ 16777216 := by
  have := textOf_len ok i (by omega); have := innerText_len ok (o := F i) hi k hk; have := ok.n256; have := ok.m64
  rw [List.length_append]; omega
theorem text_lim0 (ok : GrOK n m c I F A) {i : Nat} (hi : i ≤ n) : (textOf I F A i).length ≤ 16777216 := by
  have := textOf_len ok i hi; have := ok.Fm i hi; have := ok.n256; have := ok.m64; omega
end

variable {B P Q K : Nat} {vg lv : Value} {w0 w w1 : World} {fail : Bool} {L T : List UInt8}

def Fin' (B K : Nat) (w0 : World) (fail : Bool) (T : List UInt8) (e : Ending) (w' : World) : Prop :=
  Fr (fun k => k = K) w0 w' ∧ ((fail = false ∧ e = .returned .nilIface ∧ ∃ vg, SinkAt B K false vg T w') ∨ (fail = true ∧ ((T = [] ∧ e = .returned .nilIface) ∨ (T ≠ [] ∧ ∃ a, e = .returned (.iface 75 (.pointer (some a)))))))

theorem fl_end (h : St B P Q K w0 fail vg lv L T w) (hT : T.length ≤ 16777216) : Calls Tryd.prog 13 #[.pointer (some ⟨P, 0, none⟩)] w fun e w' => Fin' B K w0 fail T e w' := by
  obtain ⟨err, pend, got, hb, hout⟩ := h.bw
  have hlow : ∀ k, vg.ownBlock = some k → B ≤ k := fun k hk => (hb.sink.own.lt k hk).1
  have hbase := h.base
  rcases hout with ⟨rfl, ht, hg⟩ | ⟨hf, hT0, a, rfl⟩
  · have hlen := hb.len
    cases pend with
    | nil =>
      refine (flush_none hb).mono ?_
      rintro e w' ⟨rfl, rfl⟩
      rw [List.append_nil] at ht
      subst ht
      refine ⟨h.fr, ?_⟩
      cases fail
      · exact .inl ⟨rfl, rfl, vg, hb.sink⟩
      · exact .inr ⟨rfl, .inl ⟨hg rfl, rfl⟩⟩
    | cons x pend =>
      cases fail
      · refine (flush_ok hb (by simp) (by rw [← ht, List.length_append] at hT; omega)).mono ?_
        rintro e w' ⟨rfl, vg', hb', hN, hF⟩
        refine ⟨h.fr.trans' hF (fun i hi hS => ?_), .inl ⟨rfl, rfl, vg', ?_⟩⟩
        · rcases hS with e | e | e
          · omega
          · exact e
          · have := hlow i e; omega
        · rw [← ht]; exact hb'.sink
      · refine (flush_fail hb (by simp)).mono ?_
        rintro e w' ⟨a, rfl, hb', hF⟩
        refine ⟨h.fr.trans' hF (fun i hi hS => by omega), .inr ⟨rfl, .inr ⟨?_, a, rfl⟩⟩⟩
        intro e0
        rw [e0] at ht
        have := congrArg List.length ht
        simp at this
  · subst hf
    refine (flush_err hb).mono ?_
    rintro e w' ⟨rfl, rfl⟩
    exact ⟨h.fr, .inr ⟨rfl, .inr ⟨hT0, a, rfl⟩⟩⟩

theorem Fin'.ret {e : Ending} (h : Fin' B K w0 fail T e w) : ∃ x, e = .returned x := by
  rcases h with ⟨-, ⟨-, e, -⟩ | ⟨-, ⟨-, e⟩ | ⟨-, a, e⟩⟩⟩ <;> exact ⟨_, e⟩

theorem elem23 : Tryd.prog.underlying 23 = some (.slice (Tryd.prog.elem 23)) := by kernel_rfl
theorem size23 (w : World) : (sizeOf (Tryd.prog.elem 23)).run Tryd.prog w = .ok 1 w := by kernel_rfl
/-- line[:k] -/
theorem cut_line {b k : Nat} {v : Value} {l : List UInt8} (h : w.ownsRow b 5 1 v l.length (byteCells l)) (hk : k ≤ l.length) :
    ∃ sv, (Instr.slice 23 v none (some (.int .i64 (k : Int))) none).run Tryd.prog w = .ok sv w ∧ w.ownsRow b 5 1 sv k (byteCells (l.take k)) ∧ sv.ownBlock = v.ownBlock := by
  obtain ⟨h1, ⟨rfl, h3⟩ | ⟨g, cap, cur, rfl, h4, h5, h6, h7, h8, h9⟩⟩ := h
  · have hk0 : k = 0 := by omega
    subst hk0
    refine ⟨.slice none 0 0, ?_, ⟨rfl, .inl ⟨rfl, rfl⟩⟩, rfl⟩
    have := run_slice_h (P := Tryd.prog) (w := w) 23 none 0 0 elem23 .i64 0 (by omega) (by omega)
    rw [size23 w] at this
    exact this
  · refine ⟨.slice (some ⟨g, 0, none⟩) k cap, ?_, ⟨?_, .inr ⟨g, cap, cur, rfl, h4, h5, by omega, h7, h8, ?_⟩⟩, rfl⟩
    · have := run_slice_h (P := Tryd.prog) (w := w) 23 (some ⟨g, 0, none⟩) l.length cap elem23 .i64 (k : Int) (by omega) (by omega)
      rw [size23 w] at this
      rw [this]
      simp [Result.andThen, sliced, Addr.add]
    · rw [byteCells_len, List.length_take]; omega
    · have : byteCells (l.take k) = (byteCells l).take k := by unfold byteCells; rw [List.map_take]
      rw [this, ← h9, List.take_take]
      congr 1; omega

theorem St.cut {sv : Value} {k : Nat} (h : St B P Q K w0 fail vg lv L T w) (ho : w.ownsRow B 5 1 sv k (byteCells (L.take k))) (hk : k ≤ L.length) (hb : sv.ownBlock = lv.ownBlock) : St B P Q K w0 fail vg sv (L.take k) T w :=
  ⟨h.bw, by rw [List.length_take, Nat.min_eq_left hk]; exact ho, fun g hg => h.dis g (by rw [← hb]; exact hg), h.fr, h.base⟩

/-- append(line, b) -/
theorem wpList_app1 {ops : Array Oper} {rest : List Oper} {o : Oper} {a : Act} {Q' : Exit → Act → World → Prop} (hg : o.guard = none) (s x : Operand)
    (hop : o.op = Op.call { callee := Callee.builtin Builtin.append, args := #[s, x], argTypes := #[23, 23] })
    {b : UInt8} {z : Int} (hbz : byteCells [b] = [.int .u8 z]) (h : St B P Q K w0 fail vg lv L T w) (hL : L.length ≤ 64) (hs : a.eval s = lv) (hx : a.eval x = .slice (some ⟨w.heap.size, 0, none⟩) 1 1)
    (hK : ∀ v' w', St B P Q K w0 fail vg v' (L ++ [b]) T w' → St B P Q K w0 fail vg lv L T w' → wpList Tryd.prog ops Q' rest (a.put o.dst v') w') :
    wpList Tryd.prog ops Q' (o :: rest) a (w.alloc (.cells #[.int .u8 z] 5 (0, 0))) := by
  obtain ⟨i0, hi0, hz0, hz1, hz2⟩ := info_parts Tryd.info5
  have h' := h.alloc (.cells #[.int .u8 z] 5 (0, 0))
  refine wpList_append_two _ hg s x 23 hop B 5 i0 (.int .u8 0) 1 Tryd.underlying23 hi0 hz0 hz1 hz2 rfl lv L.length (byteCells L) hs h'.own ⟨w.heap.size, 0, none⟩ 1 1 (byteCells [b]) hx (by rw [hbz]; rfl) ?_ (byteCells_one _) (by omega) (by simp [maxLen]; omega) (by omega) h'.sz ?_
  · intro j u hj
    rw [hbz] at hj
    rw [add_plain, Nat.zero_add, blk_cell (blk_new w _)]
    simpa using hj
  · intro v' w' ho hgr hN hk
    refine hK v' w' (h'.grow rfl hgr hN ?_) (h'.grow rfl hgr (Near.refl _ _) hk)
    rw [byteCells_append, List.length_append]
    exact ho

def WrRel (B P Q K : Nat) (w0 : World) (fail : Bool) (I F A : Nat → Nat) (n gk : Nat) (lv iv : Value) (wr : World) : Prop :=
  ∃ i : Nat, iv = .int .i64 (i : Int) ∧ i ≤ n ∧ gk = n - i ∧ ∃ vg L, St B P Q K w0 fail vg lv L (textOf I F A i) wr ∧ L.length ≤ 64

def InRel (B P Q K : Nat) (w0 : World) (fail : Bool) (I F A : Nat → Nat) (i d gk : Nat) (lv kv : Value) (wr : World) : Prop :=
  ∃ k : Nat, kv = .int .i64 (k : Int) ∧ k ≤ d ∧ gk = d - k ∧ ∃ vg L', St B P Q K w0 fail vg lv (decDigits (I i) ++ L') (textOf I F A i ++ innerText I A i (F i) k) wr ∧ L'.length ≤ 40

variable {G gI gF gA n m c : Nat} {I F A : Nat → Nat} {Bt : Nat}
set_option maxRecDepth 100000 in
set_option maxHeartbeats 4000000 in
theorem write_any (ok : GrOK n m c I F A) (hG : GrAt G gI gF gA n m c I F A w) (hk : w.heap[K]? = some (.cells #[.slice none 0 0, .bool fail] 32 (0, 0))) (hKd : K ≠ G ∧ K ≠ gI ∧ K ≠ gF ∧ K ≠ gA)
    (htab : Lib.TabBelow Tryd.prog Bt w Tryd.powName .u64 Lib.pow10Tab) (hBt : Bt ≤ K) :
    Calls Tryd.prog 6 #[.iface 30 (.pointer (some ⟨K, 0, none⟩)), .pointer (some ⟨G, 0, none⟩)] w fun e w' => Fin' (w.heap.size + 2) K w fail (textOf I F A n) e w' := by
  have HG := Lib.hid hG
  have Hk := Lib.hid hk
  have Htab := Lib.hid htab
  have hn := ok.n256
  have hKlt := blk_lt hk
  clear hG hk htab
  have hkeep : ∀ w', Fr (fun k => k = K) w w' → GrAt G gI gF gA n m c I F A w' := fun w' hF => HG.out.keep hF (fun e => hKd.1 e.symm) (fun e => hKd.2.1 e.symm) (fun e => hKd.2.2.1 e.symm) (fun e => hKd.2.2.2 e.symm)
  have htk : ∀ w', Fr (fun k => k = K) w w' → Lib.TabIs Tryd.prog w' Tryd.powName .u64 Lib.pow10Tab := fun w' hF => (Htab.out.on (hF.below (by omega) (fun i hi => by omega))).here
  have Hkeep := Lib.hid hkeep
  have Htk := Lib.hid htk
  clear hkeep htk
  go_enter Tryd.func6, Tryd.ntmps6
  go_wp2_with (go_at_call 9; refine (new_any Hk.out).mono ?_; rintro e w1 ⟨rfl, hb, hF, hsz⟩; have Hst : Hid (St (w.heap.size + 2) (w.heap.size + 1) w.heap.size K w fail (.slice none 0 0) (.slice none 0 0) [] [] w1) := ⟨⟨_, _, _, hb, .inl ⟨rfl, rfl, fun _ => rfl⟩⟩, ⟨rfl, .inl ⟨rfl, rfl⟩⟩, (fun g hg => by simp [Value.ownBlock] at hg), hF.mono (fun _ => False.elim), by omega, by omega, by omega⟩; have c0 : w1.cell? ⟨G, 0, none⟩ = some (.slice (some ⟨gI, 0, none⟩) n n) := (blk_cell (Hkeep.out _ (hF.mono (fun _ => False.elim))).hg 0).trans rfl; clear hb hF hsz)
  go_loopg [6, 19] n (fun gk lv iv wr => WrRel (w.heap.size + 2) (w.heap.size + 1) w.heap.size K w fail I F A n gk lv iv wr)
  case atStart => exact ⟨0, rfl, by omega, by omega, _, _, Hst.out, by simp⟩
  case round =>
    clear Hst c0
    obtain ⟨i, rfl, hi, rfl, vg, L, hst, hL⟩ := hrel
    have HS := Lib.hid hst
    have g0 := Lib.hid (Hkeep.out _ hst.fr)
    clear hst
    by_cases hin : i < n
    · have ci : wr.cell? ⟨gI, i, none⟩ = some (.int .i64 (I i : Int)) := g0.out.hI i hin
      have hi63 : (I i : Int) < 9223372036854775808 := by have := ok.I63 i hin; omega
      obtain ⟨sv, hsl, hso, hsb⟩ := cut_line (k := 0) HS.out.own (Nat.zero_le _)
      have hsl : (Instr.slice 23 u6 none (some (.int .i64 0)) none).run Tryd.prog wr = .ok sv wr := hsl
      have Hso := Lib.hid hso
      have Hsb := Lib.hid hsb
      clear hso hsb
      go_wp2_with (go_at_call 10; refine (appI_any _ 0 (I i) (ok.I63 i hin) sv [] wr Hso.out HS.out.sz (by omega) (Htk.out _ HS.out.fr)).mono ?_; rintro e w2 ⟨v2, rfl, ho2, hg2, hN2⟩; have H2 := Lib.hid (HS.out.grow (L' := decDigits (I i)) Hsb.out hg2 hN2 (by simpa using ho2)); clear ho2 hg2 hN2)
      have hg2 := Hkeep.out _ H2.out.fr
      have Hg2 := Lib.hid hg2
      clear hg2
      have hFup := ok.Fup i hin
      have hFm := ok.Fm (i + 1) hin
      have hm64 := ok.m64
      by_cases hd : F (i + 1) = F i
      · have Hd := Lib.hid hd
        have Hdeg : Hid (Calls Tryd.prog 11 #[.pointer (some ⟨G, 0, none⟩), .int .i64 (i : Int)] w2 fun e w' => e = .returned (.int .i64 0) ∧ ∃ k, w' = w2.drewN k) := by
          have := degree_any ok Hg2.out hin
          rw [show (F (i + 1) : Int) - (F i : Int) = 0 by omega] at this
          exact this
        clear hd hFup hFm
        have hdl := dec_len (ok.I63 i hin)
        go_wp2_with (first | (go_at_call 11; refine Hdeg.out.mono ?_; rintro e w3 ⟨rfl, k3, rfl⟩) | (at_builtin; refine wpList_app1 rfl _ _ rfl (b := 10) rfl (H2.out.drewN k3) (by omega) rfl rfl ?_; intro v4 w4 h4 h4'; have H4 := Lib.hid h4; have H4' := Lib.hid h4'; clear h4 h4') | (go_at_call 12; refine (bw_step H4'.out H4.out.own H4.out.dis (by simp) (by simp; omega) (text_lim0 ok (Nat.le_of_lt hin))).mono ?_; rintro e w5 ⟨⟨x5, rfl⟩, vg5, h5⟩; have H5 := Lib.hid h5; clear h5))
        go_roundg (n - (i + 1))
        case measure => omega
        case rel =>
          refine ⟨i + 1, by simp, hin, rfl, vg5, _, ?_, Nat.le_trans hdl (by omega)⟩
          have := H5.out
          rwa [show textOf I F A (i + 1) = textOf I F A i ++ (decDigits (I i) ++ [10]) by rw [textOf, nodeText, if_pos Hd.out]]
      · have Hd := Lib.hid hd
        have hdl := dec_len (ok.I63 i hin)
        have hdp := dec_pos (I i)
        obtain ⟨g2, c2, rfl, -, -, -, -⟩ := own_row H2.out.own hdp
        have c1 : w2.cell? ⟨G, 1, none⟩ = some (.slice (some ⟨gF, 0, none⟩) (n + 1) (n + 1)) := (blk_cell Hg2.out.hg 1).trans rfl
        have c2' : w2.cell? ⟨G, 2, none⟩ = some (.slice (some ⟨gA, 0, none⟩) m c) := (blk_cell Hg2.out.hg 2).trans rfl
        have f0 := Hg2.out.hF i (Nat.le_of_lt hin)
        have f1 := Hg2.out.hF (i + 1) hin
        have hmc := ok.mc
        obtain ⟨x, hx⟩ : ∃ x, F i = x := ⟨_, rfl⟩
        obtain ⟨y, hy⟩ : ∃ y, F (i + 1) = y := ⟨_, rfl⟩
        have Hdeg : Hid (Calls Tryd.prog 11 #[.pointer (some ⟨G, 0, none⟩), .int .i64 (i : Int)] w2 fun e w' => e = .returned (.int .i64 ((y : Int) - (x : Int))) ∧ ∃ k, w' = w2.drewN k) := by
          have := degree_any ok Hg2.out hin
          rw [hx, hy] at this
          exact this
        rw [hx] at f0 hd hFup
        rw [hy] at f1 hd hFup hFm
        have hyx : (((y : Int) - (x : Int)) == 0) = false := by rw [beq_eq_false_iff_ne]; omega
        have hx0 : (0 : Int) ≤ x := by omega
        have hxy0 : (x : Int) < y := by omega
        have hxm : (x : Int) < m := by omega
        have hym : (y : Int) ≤ m := by omega
        have hym' : (y : Int) ≤ 65536 := by omega
        have hmc' : (m : Int) ≤ c := by omega
        have hyc : (y : Int) ≤ c := by omega
        have hi1 : (i : Int) < 256 := by omega
        have hi2 : i < n + 1 := by omega
        have hi3 : i + 1 < n + 1 := by omega
        have hcx : ¬ c - x = 0 := by omega
        have Hx := Lib.hid hx
        have Hy := Lib.hid hy
        clear hx hy hd
        go_wp2_with (go_at_call 11; refine Hdeg.out.mono ?_; rintro e w3 ⟨rfl, k3, rfl⟩)
        go_quiet (fail)
        go_wp2
        go_loopg [6, 60] (y - x) (fun gk lv kv wr => InRel (w.heap.size + 2) (w.heap.size + 1) w.heap.size K w fail I F A i (y - x) gk lv kv wr)
        case atStart => exact ⟨0, rfl, by omega, by omega, vg, [], by rw [List.append_nil, innerText, List.append_nil]; exact (H2.out.drewN k3).drewN nq, by simp⟩
        case round =>
          clear H2 Hg2 c1 c2' f0 f1 HS g0 ci Hso Hsb hsl
          obtain ⟨k, rfl, hk, rfl, vg', L', hst, hL'⟩ := hrel
          have HS := Lib.hid hst
          clear hst
          by_cases hkd : k < y - x
          · have Hg := Lib.hid (Hkeep.out _ HS.out.fr)
            have hxk : x + k < m := by omega
            have ca : wr.cell? ⟨gA, x + k, none⟩ = some (.int .i32 (A (x + k) : Int)) := Hg.out.hA (x + k) hxk
            have hAn := ok.An (x + k) hxk
            have hI2 := ok.I63 _ hAn
            have hdl2 := dec_len hI2
            have HA : Hid (lineOf I A i (x + k) = if i < A (x + k) then decDigits (I i) ++ (32 :: decDigits (I (A (x + k)))) ++ [10] else []) := rfl
            generalize A (x + k) = j at *
            have hkd' : (k : Int) < (y : Int) - (x : Int) := by omega
            have hjn : (j : Int) < 256 := by omega
            have hj0 : (0 : Int) ≤ (j : Int) := by omega
            by_cases hij : i < j
            · obtain ⟨sv, hsl, hso, hsb⟩ := cut_line (k := (decDigits (I i)).length) HS.out.own (by rw [List.length_append]; omega)
              have H1 : Hid (St (w.heap.size + 2) (w.heap.size + 1) w.heap.size K w fail vg' sv (decDigits (I i)) (textOf I F A i ++ innerText I A i (F i) k) wr) := by
                have := HS.out.cut hso (by rw [List.length_append]; omega) hsb
                rwa [List.take_left'] at this
                rfl
              clear hso hsb
              have hij' : (i : Int) < (j : Int) := by omega
              go_wp2_with (first | (at_builtin; refine wpList_app1 rfl _ _ rfl (b := 32) rfl H1.out (by omega) rfl rfl ?_; intro v4 w4 h4 h4'; have H4 := Lib.hid h4; have Hg4 := Lib.hid (Hkeep.out _ h4.fr); have c0 : w4.cell? ⟨G, 0, none⟩ = some (.slice (some ⟨gI, 0, none⟩) n n) := (blk_cell Hg4.out.hg 0).trans rfl; have cj := Hg4.out.hI j hAn; clear h4 h4' H1) | (go_at_call 10; refine (appI_any _ (decDigits (I i) ++ [32]).length (I j) hI2 v4 (byteCells (decDigits (I i) ++ [32])) w4 H4.out.own H4.out.sz (by rw [List.length_append]; simp; omega) (Htk.out _ H4.out.fr)).mono ?_; rintro e w5 ⟨v5, rfl, ho5, hg5, hN5⟩; have H5 := Lib.hid (H4.out.grow (L' := (decDigits (I i) ++ [32]) ++ decDigits (I j)) rfl hg5 hN5 (by rw [byteCells_append, List.length_append]; exact ho5)); clear ho5 hg5 hN5) | (at_builtin; refine wpList_app1 rfl _ _ rfl (b := 10) rfl H5.out (by simp; omega) rfl rfl ?_; intro v6 w6 h6 h6'; have H6 := Lib.hid h6; have H6' := Lib.hid h6'; clear h6 h6') | (go_at_call 12; refine (bw_step H6'.out H6.out.own H6.out.dis (by simp; omega) (by simp; omega) (text_lim ok hin (by rw [Hx.out]; omega))).mono ?_; rintro e w7 ⟨⟨x7, rfl⟩, vg7, h7⟩; have H7 := Lib.hid h7; clear h7))
              go_roundg (y - x - (k + 1))
              case measure => omega
              case rel =>
                refine ⟨k + 1, by simp, hkd, rfl, vg7, 32 :: decDigits (I j), ?_, by simp; omega⟩
                have := H7.out
                rw [innerText, Hx.out, HA.out, if_pos hij, ← List.append_assoc]
                rw [Hx.out] at this
                simpa [List.append_assoc] using this
            · have hij' : ((i : Int) < (j : Int)) = False := by simp; omega
              have hij2 : decide ((i : Int) < (j : Int)) = false := by simp; omega
              go_wp2
              go_roundg (y - x - (k + 1))
              case measure => omega
              case rel =>
                refine ⟨k + 1, by simp, hkd, rfl, vg', L', ?_, hL'⟩
                rw [innerText, Hx.out, HA.out, if_neg hij, List.append_nil, ← Hx.out]
                exact HS.out
          · have hk' : k = y - x := by omega
            have hkd' : ¬ (k : Int) < (y : Int) - (x : Int) := by omega
            go_wp2
            go_roundg (n - (i + 1))
            case measure => omega
            case rel =>
              refine ⟨i + 1, by simp, hin, rfl, vg', decDigits (I i) ++ L', ?_, by rw [List.length_append]; omega⟩
              have := HS.out
              rw [textOf, nodeText, if_neg Hd.out, Hy.out, Hx.out]
              rw [Hx.out, hk'] at this
              exact this
    · have hin' : i = n := by omega
      subst hin'
      go_wp2_with (go_at_call 13; refine (fl_end HS.out (text_lim0 ok (Nat.le_refl _))).mono ?_; intro e w' hfin; have Hfin := Lib.hid hfin; obtain ⟨x, rfl⟩ := hfin.ret; clear hfin)
      go_ret
      exact Hfin.out
end Go.Proofs.Qxb6003964aDoor
