/-
  'reachability' walked.
-/
import Derived.Test.Qxb6004021aBfs
import Derived.Test.Qxb6004021aClone
namespace Go.Proofs.Qxb6004021a
open Go.ChangeShapes Go.WideShapes Go.ChangeAt Go.RowKit
open Tj (upd St)

/-- The table of marks in block B, the queue. -/
structure Rm (B N : Nat) (w0 : World) (R : Nat → Bool) (vq : Value) (q : List Nat) (w : World) : Prop where
  bel : Below B w0 w
  row : RowIs w B 4 N (fun i => .bool (R i))
  own : w.ownsRow (B + 1) 3 1 vq q.length (q.map fun x : Nat => Value.int .i64 (x : Int))
theorem Rm.setR {B N : Nat} {w0 w : World} {R : Nat → Bool} {vq : Value} {q : List Nat} (h : Rm B N w0 R vq q w) (i : Nat) : Rm B N w0 (upd R i true) vq q (w.setCell ⟨B, i, none⟩ (.bool true)) :=
  ⟨h.bel.setCell (Nat.le_refl _) _, (h.row.set i _).congr (fun j _ => by simp only [upd]; split <;> rfl), ownsRow_setCell_below h.own (by show B < B + 1; omega) _⟩
theorem Rm.alloc {B N : Nat} {w0 w : World} {R : Nat → Bool} {vq : Value} {q : List Nat} (h : Rm B N w0 R vq q w) (o : Obj) : Rm B N w0 R vq q (w.alloc o) :=
  ⟨h.bel.alloc (by have := h.row.lt; omega) o, h.row.alloc o, h.own.alloc o⟩
theorem Rm.grown {B N : Nat} {w0 w w' : World} {R : Nat → Bool} {vq vq' : Value} {q : List Nat} {x : Nat} (h : Rm B N w0 R vq q w) (hg : w.grownBy w' vq.ownBlock) (ho : w'.ownsRow (B + 1) 3 1 vq' (q.length + 1) ((q.map fun x : Nat => Value.int .i64 (x : Int)) ++ [.int .i64 (x : Int)])) : Rm B N w0 R vq' (q ++ [x]) w' := by
  have hlt := h.row.lt
  have hne : ∀ k, vq.ownBlock = some k → B + 1 ≤ k := fun k hk => (h.own.lt k hk).1
  refine ⟨h.bel.grown hg (by omega) (fun k hk => by have := hne k hk; omega), h.row.keep (hg.block B hlt (fun e => by have := hne B e.symm; omega)), ?_⟩
  rw [List.length_append, List.map_append]
  exact ho
/-- 'queue = queue[:0]'. -/
theorem Rm.zero {B N : Nat} {w0 w : World} {R : Nat → Bool} {gq m cap : Nat} {q : List Nat} (h : Rm B N w0 R (.slice (some ⟨gq, 0, none⟩) m cap) q w) : Rm B N w0 R (.slice (some ⟨gq, 0, none⟩) 0 cap) [] w := by
  refine ⟨h.bel, h.row, rfl, .inr ?_⟩
  obtain ⟨_, ⟨h1, _⟩ | ⟨g', cap', cur, h1, h2, h3, h4, h5, h6, h7⟩⟩ := h.own
  · cases h1
  · cases h1
    exact ⟨gq, cap, cur, rfl, h2, h3, Nat.zero_le _, h5, h6, rfl⟩

theorem make_table (n : Nat) (hn : n ≤ 256) (w : World) :
    (Instr.makeSlice 30 (.int .i64 ((n : Int) * (n : Int))) (.int .i64 ((n : Int) * (n : Int)))).run Try.prog w = .ok (.slice (some ⟨w.heap.size, 0, none⟩) (n * n) (n * n)) (w.alloc (.cells (madeCells #[.bool false] (n * n)) 4)) := by
  have h : n * n ≤ 65536 := Nat.le_trans (Nat.mul_le_mul hn hn) (by decide)
  have := make_bools (n * n) h w
  rw [Int.natCast_mul] at this
  exact this
theorem make_queue (n : Nat) (hn : n ≤ 256) (w : World) :
    (Instr.makeSlice 28 (.int .i64 0) (.int .i64 (n : Int))).run Try.prog w = .ok (.slice (some ⟨w.heap.size, 0, none⟩) 0 n) (w.alloc (.cells (madeCells #[.int .i64 0] n) 3)) := by
  obtain ⟨i0, hi, hz0, hz1, hz2⟩ := info_parts Try.info3
  have := run_make (P := Try.prog) w 28 3 i0 (.int .i64 0) Try.underlying28 hi hz0 .i64 .i64 0 n (by omega) (by omega) (by rw [hz2]; omega) (by omega)
  rw [this, hz1]
  simp [Value.cells]

theorem rm_start (w : World) (n : Nat) (hn : n ≤ 256) : Rm w.heap.size (n * n) w (fun _ => false) (.slice (some ⟨w.heap.size + 1, 0, none⟩) 0 n) [] ((w.alloc (.cells (madeCells #[.bool false] (n * n)) 4)).alloc (.cells (madeCells #[.int .i64 0] n) 3)) := by
  refine ⟨((Below.refl _ _).alloc (Nat.le_refl _) _).alloc (by simp) _, (RowIs.made w _ 4 (n * n)).alloc _, rfl, .inr ⟨w.heap.size + 1, n, _, rfl, Nat.le_refl _, blk_new' _ _ _ (by simp), Nat.zero_le _, by unfold maxLen; omega, by rw [size_madeCells]; omega, rfl⟩⟩

/-- What holds at the head of the s-th round: the rows below s are told, the others empty. -/
def Told (n : Nat) (g : Nat → List Nat) (R : Nat → Bool) (s : Nat) : Prop := (∀ u, u < s → ∀ v, v < n → (R (u * n + v) = true ↔ Tj.Reach g u v)) ∧ ∀ i, s * n ≤ i → R i = false

/-- What 'reachability' gives. -/
def ReachPost (n : Nat) (g : Nat → List Nat) (w : World) (e : Ending) (w' : World) : Prop :=
  ∃ br, e = .returned (.slice (some ⟨br, 0, none⟩) (n * n) (n * n)) ∧ Below w.heap.size w w' ∧ ∃ R : Nat → Bool, RowIs w' br 4 (n * n) (fun i => .bool (R i)) ∧ ∀ u, u < n → ∀ v, v < n → (R (u * n + v) = true ↔ Tj.Reach g u v)

theorem upd_row (R : Nat → Bool) (b y : Nat) : (fun x => upd R (b + y) true (b + x)) = upd (fun x => R (b + x)) y true := by
  funext x
  by_cases e : x = y
  · subst e; simp [upd]
  · simp [upd, e]

set_option maxRecDepth 100000 in
set_option maxHeartbeats 4000000 in
theorem reach_any {a : Option Addr} {bs os n c : Nat} {g : Nat → List Nat} (w : World) (hn : n ≤ 256) (hG : GraphAt w a bs os n g) :
    Calls Try.prog 13 #[.slice a n c] w fun e w' => ReachPost n g w e w' := by
  obtain ⟨i3, hi, hz0, hz1, hz2⟩ := info_parts Try.info3
  have HG : Hid (GraphAt w a bs os n g) := hG
  clear hG
  have hm1 := make_table n hn
  have hm2 := make_queue n hn
  have hnn : n * n ≤ 65536 := Nat.le_trans (Nat.mul_le_mul hn hn) (by decide)
  have hnn' : (n : Int) * (n : Int) ≤ 65536 := by have := Int.ofNat_le.2 hnn; rw [Int.natCast_mul] at this; exact this
  have hnn0 : 0 ≤ (n : Int) * (n : Int) := Int.mul_nonneg (by omega) (by omega)
  have HM0 : Hid (Rm w.heap.size (n * n) w (fun _ => false) (.slice (some ⟨w.heap.size + 1, 0, none⟩) 0 n) [] ((w.alloc (.cells (madeCells #[.bool false] (n * n)) 4)).alloc (.cells (madeCells #[.int .i64 0] n) 3))) := rm_start w n hn
  go_enter Try.func13, Try.ntmps13
  go_wp2
  clear hm1 hm2
  go_loopg [5, 6] n (fun gk vq i wr => ∃ (s : Nat) (R : Nat → Bool) (gq m cap : Nat) (q : List Nat), s ≤ n ∧ gk = n - s ∧ i = .int .i64 s ∧ vq = .slice (some ⟨gq, 0, none⟩) m cap ∧ Told n g R s ∧ Rm w.heap.size (n * n) w R (.slice (some ⟨gq, 0, none⟩) m cap) q wr)
  case atStart => exact ⟨0, fun _ => false, w.heap.size + 1, 0, n, [], Nat.zero_le _, rfl, rfl, rfl, ⟨fun u hu => absurd hu (by omega), fun _ _ => rfl⟩, HM0.out⟩
  case round =>
    clear HM0
    obtain ⟨s, R, gq, m, cap, q, hs, rfl, rfl, rfl, hT, hM⟩ := hrel
    have HT : Hid (Told n g R s) := hT
    clear hT
    by_cases hlt : s < n
    · have hsn : s * n + n ≤ n * n := by have := Nat.mul_le_mul_right n (Nat.succ_le_of_lt hlt); rwa [Nat.succ_mul] at this
      have hsn1 : s * n + s < n * n := by omega
      have hsn2 : (s : Int) * (n : Int) + (n : Int) ≤ (n : Int) * (n : Int) := by have := Int.ofNat_le.2 hsn; rw [Int.natCast_add, Int.natCast_mul, Int.natCast_mul] at this; exact this
      have hsn0 : 0 ≤ (s : Int) * (n : Int) := Int.mul_nonneg (by omega) (by omega)
      have r1 := hM.row.cell hsn1
      have r2 := hM.row.free (s * n + s)
      have M1 := (hM.setR (s * n + s)).zero
      have HM1 : Hid (Rm w.heap.size (n * n) w (upd R (s * n + s) true) (.slice (some ⟨gq, 0, none⟩) 0 cap) [] (wr.setCell ⟨w.heap.size, s * n + s, none⟩ (.bool true))) := M1
      have hgl := hM.own.lt gq rfl
      clear M1
      go_wp2_with (at_builtin; refine wpList_append_own _ rfl (.tmp 40) (.tmp 42) 28 rfl (w.heap.size + 1) 3 i3 (.int .i64 0) 1 8 Try.underlying28 hi hz0 hz1 hz2 rfl (by decide) _ _ _ rfl (by exact (HM1.out.alloc _).own) ⟨_, 0, none⟩ 1 1 [.int .i64 (s : Int)] rfl rfl ?c1 ?c2 ?c3 ?c4 ?c5 ?_)
      case c1 => exact one_newN _ _ _ _ (by rw [size_set])
      case c2 => intro u hu; simp at hu; subst hu; rfl
      case c3 => unfold maxLen; simp
      case c4 => simp
      case c5 => have := hgl; simp only [World.size_alloc, size_set]; omega
      intro v' w1 hown' hgrow _
      obtain ⟨gq1, cap1, hv1, hg1, hc1⟩ := own_some (m := 0) hown'
      subst hv1
      have HM2 : Hid (Rm w.heap.size (n * n) w (upd R (s * n + s) true) (.slice (some ⟨gq1, 0, none⟩) 1 cap1) [s] w1) := (HM1.out.alloc _).grown (q := []) (x := s) hgrow hown'
      have HB2 : Hid (Tj.Bq n g s (fun x => upd R (s * n + s) true (s * n + x)) [s] 0 0) := by
        unfold Hid
        rw [upd_row]
        exact Tj.Bq.start hlt (fun x hx => HT.out.2 _ (by omega))
      clear HM1 hgrow hown' hM r1 r2 hgl
      go_wp2
      go_loopg [5, 8] n (fun gk vq hd wx => ∃ (R' : Nat → Bool) (h : Nat) (q : List Nat) (gq cap : Nat), gk = n - h ∧ hd = .int .i64 h ∧ vq = .slice (some ⟨gq, 0, none⟩) q.length cap ∧ h ≤ q.length ∧ Tj.Bq n g s (fun x => R' (s * n + x)) q h 0 ∧ (∀ i, i < s * n ∨ s * n + n ≤ i → R' i = R i) ∧ Rm w.heap.size (n * n) w R' (.slice (some ⟨gq, 0, none⟩) q.length cap) q wx)
      case atStart => exact ⟨_, 0, [s], gq1, cap1, rfl, rfl, rfl, Nat.zero_le _, HB2.out, fun i hi => Tj.upd_ne _ _ (by omega), HM2.out⟩
      case round =>
        clear HM2 HB2
        obtain ⟨R', h, q', gq', cap', rfl, rfl, rfl, hhq, hB, hfr, hM⟩ := hrel
        have hql := hB.len
        have HB : Hid (Tj.Bq n g s (fun x => R' (s * n + x)) q' h 0) := hB
        have Hfr : Hid (∀ i, i < s * n ∨ s * n + n ≤ i → R' i = R i) := hfr
        clear hB hfr
        by_cases hhl : h < q'.length
        · have hx : q'[h]? = some q'[h] := List.getElem?_eq_getElem hhl
          have hxn := (HB.out.mem _ (List.getElem_mem hhl)).1
          have q1 : wr.cell? ⟨gq', h, none⟩ = some (.int .i64 (q'[h] : Int)) := (hM.own.cellAt h (by omega)).trans (by rw [List.getElem?_map, hx]; rfl)
          have HX : Hid (q'[h]? = some q'[h]) := hx
          obtain ⟨ha, hbs⟩ := HG.out.adr (by omega)
          have hrw := HG.out.row _ hxn
          have hlen := HG.out.len _ hxn
          have hGlt := HG.out.lt _ hxn
          clear hx
          generalize q'[h] = x at *
          obtain ⟨ar, capv, e00, e1⟩ := hrw
          have e0 := (hM.bel.cell (p := ⟨bs, os + x, none⟩) hbs).trans e00
          have E1 : Hid (∀ j, j < (g x).length → ∃ b o, ar = some ⟨b, o, none⟩ ∧ b < w.heap.size ∧ w.cell? ⟨b, o + j, none⟩ = some (.int .i32 ((g x).getD j 0 : Nat))) := e1
          have HGlt : Hid (∀ y, y ∈ g x → y < n) := hGlt
          have HM : Hid (Rm w.heap.size (n * n) w R' (.slice (some ⟨gq', 0, none⟩) q'.length cap') q' wr) := hM
          subst ha
          clear e1 hGlt e00 hM
          go_wp2
          go_loopg [5, 59] (g x).length (fun gk vq jv wx => ∃ (R1 : Nat → Bool) (j : Nat) (q : List Nat) (gq cap : Nat), gk = (g x).length - j ∧ j ≤ (g x).length ∧ jv = .int .i64 j ∧ vq = .slice (some ⟨gq, 0, none⟩) q.length cap ∧ q[h]? = some x ∧ Tj.Bq n g s (fun z => R1 (s * n + z)) q h j ∧ (∀ i, i < s * n ∨ s * n + n ≤ i → R1 i = R i) ∧ Rm w.heap.size (n * n) w R1 (.slice (some ⟨gq, 0, none⟩) q.length cap) q wx)
          case atStart => exact ⟨R', 0, q', gq', cap', rfl, Nat.zero_le _, rfl, rfl, HX.out, HB.out, Hfr.out, HM.out⟩
          case round =>
            clear HM HB Hfr HX q1 e0 hhl hhq hql
            obtain ⟨R1, j, q2, gq2, cap2, rfl, hj, rfl, rfl, hx, hB, hfr, hM⟩ := hrel
            have hql := hB.len
            have hhl : h < q2.length := by
              rcases Nat.lt_or_ge h q2.length with h1 | h1
              · exact h1
              · rw [List.getElem?_eq_none h1] at hx; cases hx
            have HX : Hid (q2[h]? = some x) := hx
            have HB : Hid (Tj.Bq n g s (fun z => R1 (s * n + z)) q2 h j) := hB
            have Hfr : Hid (∀ i, i < s * n ∨ s * n + n ≤ i → R1 i = R i) := hfr
            clear hx hB hfr
            by_cases hjl : j < (g x).length
            · obtain ⟨b, o, hab, hbl, r3⟩ := E1.out j hjl
              have r4 := (hM.bel.cell (p := ⟨b, o + j, none⟩) hbl).trans r3
              have HY : Hid ((g x)[j]? = some (g x)[j]) := List.getElem?_eq_getElem hjl
              have hye : (g x).getD j 0 = (g x)[j] := by simp [hjl]
              have hyn : (g x)[j] < n := HGlt.out _ (List.getElem_mem hjl)
              rw [hye] at r4
              clear r3 hye E1
              subst hab
              generalize (g x)[j] = y at *
              have hsy : s * n + y < n * n := by omega
              have r5 := hM.row.cell hsy
              have r6 := hM.row.free (s * n + y)
              cases hf : R1 (s * n + y) with
              | true =>
                have HB' : Hid (Tj.Bq n g s (fun z => R1 (s * n + z)) q2 h (j + 1)) := HB.out.skip HX.out HY.out hf
                have HM : Hid (Rm w.heap.size (n * n) w R1 (.slice (some ⟨gq2, 0, none⟩) q2.length cap2) q2 wr) := hM
                rw [hf] at r5
                clear HB hM hf r6
                go_wp2
                go_roundg ((g x).length - (j + 1))
                case measure => omega
                case rel => exact ⟨R1, j + 1, q2, gq2, cap2, rfl, by omega, by go_num, rfl, HX.out, HB'.out, Hfr.out, HM.out⟩
              | false =>
                have HB' : Hid (Tj.Bq n g s (fun z => upd R1 (s * n + y) true (s * n + z)) (q2 ++ [y]) h (j + 1)) := by
                  unfold Hid
                  rw [upd_row]
                  exact HB.out.mark HX.out HY.out hyn hf
                have HX' : Hid ((q2 ++ [y])[h]? = some x) := by
                  unfold Hid
                  rw [List.getElem?_append_left hhl]; exact HX.out
                have Hfr' : Hid (∀ i, i < s * n ∨ s * n + n ≤ i → upd R1 (s * n + y) true i = R i) := fun i hi => by
                  rw [Tj.upd_ne _ _ (by omega)]; exact Hfr.out i hi
                have M1 := hM.setR (s * n + y)
                have HM1 : Hid (Rm w.heap.size (n * n) w (upd R1 (s * n + y) true) (.slice (some ⟨gq2, 0, none⟩) q2.length cap2) q2 (wr.setCell ⟨w.heap.size, s * n + y, none⟩ (.bool true))) := M1
                have hgl := hM.own.lt gq2 rfl
                rw [hf] at r5
                clear HB hM hf M1 HX Hfr
                go_wp2_with (at_builtin; refine wpList_append_own _ rfl (.tmp 71) (.tmp 74) 28 rfl (w.heap.size + 1) 3 i3 (.int .i64 0) 1 8 Try.underlying28 hi hz0 hz1 hz2 rfl (by decide) _ _ _ rfl (by exact (HM1.out.alloc _).own) ⟨_, 0, none⟩ 1 1 [.int .i64 (y : Int)] rfl rfl ?d1 ?d2 ?d3 ?d4 ?d5 ?_)
                case d1 => exact one_newN _ _ _ _ (by rw [size_set])
                case d2 => intro u hu; simp at hu; subst hu; rfl
                case d3 => unfold maxLen; omega
                case d4 => omega
                case d5 => have := hgl; simp only [World.size_alloc, size_set]; omega
                intro v' w1 hown' hgrow _
                obtain ⟨gq3, cap3, hv3, hg3, hc3⟩ := own_some hown'
                subst hv3
                have HM2 := (HM1.out.alloc _).grown (x := y) hgrow hown'
                have HM3 : Hid (Rm w.heap.size (n * n) w (upd R1 (s * n + y) true) (.slice (some ⟨gq3, 0, none⟩) (q2 ++ [y]).length cap3) (q2 ++ [y]) w1) := by
                  unfold Hid
                  rw [List.length_append]; exact HM2
                clear HM1 HM2 hgrow hown' hgl r5 r6
                go_wp2
                go_roundg ((g x).length - (j + 1))
                case measure => omega
                case rel => exact ⟨_, j + 1, q2 ++ [y], gq3, cap3, rfl, by omega, by go_num, by rw [List.length_append]; rfl, HX'.out, HB'.out, Hfr'.out, HM3.out⟩
            · have HB' : Hid (Tj.Bq n g s (fun z => R1 (s * n + z)) q2 (h + 1) 0) := HB.out.next HX.out (by omega)
              have HM : Hid (Rm w.heap.size (n * n) w R1 (.slice (some ⟨gq2, 0, none⟩) q2.length cap2) q2 wr) := hM
              clear HB hM E1
              go_wp2
              go_roundg (n - (h + 1))
              case measure => omega
              case rel => exact ⟨R1, h + 1, q2, gq2, cap2, rfl, by go_num, rfl, by omega, HB'.out, Hfr.out, HM.out⟩
        · have HT' : Hid (Told n g R' (s + 1)) := by
            refine ⟨fun u hu v hv => ?_, fun i hi => ?_⟩
            · by_cases e : u = s
              · subst e; exact HB.out.done (by omega) hv HG.out.lt
              · have h1 : u * n + n ≤ s * n := by have := Nat.mul_le_mul_right n (show u + 1 ≤ s by omega); rwa [Nat.succ_mul] at this
                rw [Hfr.out _ (.inl (by omega))]
                exact HT.out.1 u (by omega) v hv
            · rw [Nat.succ_mul] at hi
              rw [Hfr.out _ (.inr hi)]
              exact HT.out.2 i (by omega)
          have HM : Hid (Rm w.heap.size (n * n) w R' (.slice (some ⟨gq', 0, none⟩) q'.length cap') q' wr) := hM
          clear hM HB Hfr HT
          go_wp2
          go_roundg (n - (s + 1))
          case measure => omega
          case rel => exact ⟨s + 1, R', gq', _, cap', q', by omega, rfl, by go_num, rfl, HT'.out, HM.out⟩
    · obtain rfl : s = n := by omega
      have HP : Hid (ReachPost s g w (.returned (.slice (some ⟨w.heap.size, 0, none⟩) (s * s) (s * s))) wr) := ⟨_, rfl, hM.bel, R, hM.row, HT.out.1⟩
      clear hM HT
      go_wp2
      go_ret
      exact HP.out
end Go.Proofs.Qxb6004021a
