/-
  'cloneGraph' and 'ZZComponents'.
-/
import Derived.Test.Qxb6004021aGraph
namespace Go.Proofs.Qxb6004021a
open Go.ChangeShapes Go.WideShapes Go.ChangeAt Go.RowKit
open Tj (upd St)

theorem Try.info32 : (Try.prog.info? 32).map (fun i => (i.zero, i.size, i.bytes)) = some (some (.slice none 0 0), 1, 24) := by kernel_rfl
theorem Try.info21 : (Try.prog.info? 21).map (fun i => (i.zero, i.size, i.bytes)) = some (some (.int .i32 0), 1, 4) := by kernel_rfl
theorem make_rows (n : Nat) (hn : n ≤ 65536) (w : World) :
    (Instr.makeSlice 24 (.int .i64 (n : Int)) (.int .i64 (n : Int))).run Try.prog w = .ok (.slice (some ⟨w.heap.size, 0, none⟩) n n) (w.alloc (.cells (madeCells #[.slice none 0 0] n) 32)) := by
  obtain ⟨i0, hi, hz0, hz1, hz2⟩ := info_parts Try.info32
  have := run_make (P := Try.prog) w 24 32 i0 (.slice none 0 0) Try.underlying24 hi hz0 .i64 .i64 n n (by omega) (by omega) (by rw [hz2]; omega) (by omega)
  rw [this, hz1]
  simp [Value.cells]
theorem make_i32 (n : Nat) (hn : n ≤ 65536) (w : World) :
    (Instr.makeSlice 32 (.int .i64 (n : Int)) (.int .i64 (n : Int))).run Try.prog w = .ok (.slice (some ⟨w.heap.size, 0, none⟩) n n) (w.alloc (.cells (madeCells #[.int .i32 0] n) 21)) := by
  obtain ⟨i0, hi, hz0, hz1, hz2⟩ := info_parts Try.info21
  have := run_make (P := Try.prog) w 32 21 i0 (.int .i32 0) Try.underlying32 hi hz0 .i64 .i64 n n (by omega) (by omega) (by rw [hz2]; omega) (by omega)
  rw [this, hz1]
  simp [Value.cells]

/-- The graph that the rows spell. -/
def gOf (L : Nat → Nat) (Z : Nat → List Int) (v : Nat) : List Nat := ((Z v).take (L v)).map Int.toNat
theorem gOf_len {L : Nat → Nat} {Z : Nat → List Int} {v : Nat} (h : L v ≤ (Z v).length) : (gOf L Z v).length = L v := by simp [gOf]; omega
theorem gOf_get {L : Nat → Nat} {Z : Nat → List Int} {v j : Nat} (h : L v ≤ (Z v).length) (hj : j < L v) (h0 : 0 ≤ (Z v).getD j 0) : (((gOf L Z v).getD j 0 : Nat) : Int) = (Z v).getD j 0 := by
  have hl : j < (Z v).length := by omega
  simp only [List.getD_eq_getElem?_getD] at h0 ⊢
  simp only [gOf, List.getElem?_map, List.getElem?_take, if_pos hj]
  rw [List.getElem?_eq_getElem hl] at h0 ⊢
  simp at h0 ⊢
  omega
theorem gOf_mem {L : Nat → Nat} {Z : Nat → List Int} {v n : Nat} (h : ∀ j, j < L v → 0 ≤ (Z v).getD j 0 ∧ (Z v).getD j 0 < n) {y : Nat} (hy : y ∈ gOf L Z v) : y < n := by
  simp only [gOf, List.mem_map] at hy
  obtain ⟨z, hz, rfl⟩ := hy
  obtain ⟨j, hj, rfl⟩ := List.mem_iff_getElem.1 hz
  have hj2 : j < L v ∧ j < (Z v).length := by simp at hj; omega
  have := h j hj2.1
  simp only [List.getD_eq_getElem?_getD, List.getElem?_eq_getElem hj2.2, Option.getD_some] at this
  rw [List.getElem_take]
  omega

/-- Behind k rounds of the copy. -/
structure Cl (B n : Nat) (w0 : World) (g : Nat → List Nat) (k : Nat) (w : World) : Prop where
  bel : Below B w0 w
  top : ∃ R : Nat → Value, RowIs w B 32 n R ∧ (∀ v, k ≤ v → v < n → R v = .slice none 0 0) ∧ ∀ v, v < k → v < n → ∃ ar cap, R v = .slice ar (g v).length cap ∧ ∀ j, j < (g v).length → ∃ b, ar = some ⟨b, 0, none⟩ ∧ B < b ∧ b < w.heap.size ∧ w.cell? ⟨b, j, none⟩ = some (.int .i32 ((g v).getD j 0 : Nat))

theorem Cl.start (w : World) (n : Nat) (g : Nat → List Nat) : Cl w.heap.size n w g 0 (w.alloc (.cells (madeCells #[.slice none 0 0] n) 32)) :=
  ⟨(Below.refl _ _).alloc (Nat.le_refl _) _, _, RowIs.made w _ 32 n, fun _ _ _ => rfl, fun v hv => absurd hv (by omega)⟩

/-- A nil row stays nil. -/
theorem Cl.skip {B n : Nat} {w0 w : World} {g : Nat → List Nat} {k : Nat} (h : Cl B n w0 g k w) (hk : k < n) (hg : g k = []) : Cl B n w0 g (k + 1) w := by
  obtain ⟨R, h1, h2, h3⟩ := h.top
  refine ⟨h.bel, R, h1, fun v hv => h2 v (by omega), fun v hv hvn => ?_⟩
  by_cases e : v = k
  · subst e
    exact ⟨none, 0, by rw [h2 v (Nat.le_refl _) hk, hg]; rfl, fun j hj => by rw [hg] at hj; cases hj⟩
  · exact h3 v (by omega) hvn

/-- A row is copied into a new block and laid in its place. -/
theorem Cl.step {B n : Nat} {w0 w w1 : World} {g : Nat → List Nat} {k : Nat} (h : Cl B n w0 g k w) (hb1 : Below w.heap.size w w1) (hg1 : w1.heap[w.heap.size]? = some (.cells (((g k).map fun x : Nat => Value.int .i32 (x : Int)).toArray) 21 (0, 0))) (m : Nat) :
    Cl B n w0 g (k + 1) (w1.setCell ⟨B, k, none⟩ (.slice (some ⟨w.heap.size, 0, none⟩) (g k).length m)) := by
  obtain ⟨R, h1, h2, h3⟩ := h.top
  have hBl := h1.lt
  refine ⟨(h.bel.trans (hb1.mono (by omega))).setCell (Nat.le_refl _) _, upd R k (.slice (some ⟨w.heap.size, 0, none⟩) (g k).length m), (h1.keep (hb1.block B hBl)).set k _, fun v hv hvn => by rw [Tj.upd_ne _ _ (by omega)]; exact h2 v (by omega) hvn, fun v hv hvn => ?_⟩
  by_cases e : v = k
  · subst e
    refine ⟨_, _, Tj.upd_same _ _ _, fun j hj => ⟨w.heap.size, rfl, hBl, by rw [size_set]; exact blk_lt hg1, ?_⟩⟩
    rw [blk_cell ((blk_set_ne (by omega) _ _).trans hg1)]
    simp [hj]
  · obtain ⟨ar, cap, e1, e2⟩ := h3 v (by omega) hvn
    refine ⟨ar, cap, by rw [Tj.upd_ne _ _ e]; exact e1, fun j hj => ?_⟩
    obtain ⟨b, f1, f2, f3, f4⟩ := e2 j hj
    refine ⟨b, f1, f2, by rw [size_set]; exact Nat.lt_of_lt_of_le f3 hb1.size, ?_⟩
    rw [World.cell?_of_block (w := w) (a := ⟨b, j, none⟩) ((blk_set_ne (show b ≠ B by omega) _ _).trans (hb1.block b f3))]
    exact f4

theorem Cl.graph {n : Nat} {w0 w : World} {g : Nat → List Nat} (h : Cl w0.heap.size n w0 g n w) (hlen : ∀ v, v < n → (g v).length ≤ 65536) (hlt : ∀ v, v < n → ∀ y, y ∈ g v → y < n) : GraphAt w (some ⟨w0.heap.size, 0, none⟩) w0.heap.size 0 n g := by
  obtain ⟨R, h1, h2, h3⟩ := h.top
  refine ⟨fun _ => ⟨rfl, h1.lt⟩, fun v hv => ?_, hlen, hlt⟩
  obtain ⟨ar, cap, e1, e2⟩ := h3 v hv hv
  refine ⟨ar, cap, by rw [Nat.zero_add, h1.cell hv, e1], fun j hj => ?_⟩
  obtain ⟨b, f1, f2, f3, f4⟩ := e2 j hj
  exact ⟨b, 0, f1, f3, by rw [Nat.zero_add]; exact f4⟩

theorem splice_all {cur cs : List Value} (h : cur.length = cs.length) : splice cur 0 cs = cs := by simp [splice, ← h]
theorem made_list (z : Value) (n : Nat) : madeCells #[z] n = (List.replicate n z).toArray := by
  rw [← toList_madeCells_one]

/-- What 'cloneGraph' gives. -/
def ClonePost (n : Nat) (g : Nat → List Nat) (w : World) (e : Ending) (w' : World) : Prop := ∃ a' bs' c', e = .returned (.slice a' n c') ∧ GraphAt w' a' bs' 0 n g ∧ Below w.heap.size w w'

theorem clone_nil (w : World) (g : Nat → List Nat) : Calls Try.prog 11 #[.slice none 0 0] w fun e w' => ClonePost 0 g w e w' := by
  have hnil := fun w a m c => Lib.run_eql_slice_nil (P := Try.prog) w 24 32 a m c 0 0 Try.underlying24
  go_enter Try.func11, Try.ntmps11
  go_wp2
  go_ret
  exact ⟨none, 0, 0, rfl, ⟨fun h => absurd h (by omega), fun v hv => absurd hv (by omega), fun v hv => absurd hv (by omega), fun v hv => absurd hv (by omega)⟩, Below.refl _ _⟩

set_option maxHeartbeats 1000000 in
theorem clone_some {bs os n c : Nat} {ad : Addr} {A : Nat → Option Addr} {L C RB RO : Nat → Nat} {Z : Nat → List Int} (w : World) (h : InRows w (some ad) bs os n c A L C RB RO Z) (hn : n ≤ 65536) (hL : ∀ r, r < n → L r ≤ 65536)
    (hZ : ∀ r, r < n → ∀ j, j < L r → 0 ≤ (Z r).getD j 0 ∧ (Z r).getD j 0 < n) : Calls Try.prog 11 #[.slice (some ad) n c] w fun e w' => ClonePost n (gOf L Z) w e w' := by
  have H : Hid (InRows w (some ad) bs os n c A L C RB RO Z) := h
  have HLZ : Hid ((∀ r, r < n → L r ≤ 65536) ∧ ∀ r, r < n → ∀ j, j < L r → 0 ≤ (Z r).getD j 0 ∧ (Z r).getD j 0 < n) := ⟨hL, hZ⟩
  have hmk := make_rows n hn
  have hnil := fun w a m c => Lib.run_eql_slice_nil (P := Try.prog) w 24 32 a m c 0 0 Try.underlying24
  clear h hL hZ
  go_enter Try.func11, Try.ntmps11
  go_wp2
  clear hmk hnil
  go_loopg [14] n (fun gk i wr => ∃ k : Nat, k ≤ n ∧ gk = n - k ∧ i = .int .i64 k ∧ Cl w.heap.size n w (gOf L Z) k wr)
  case atStart => exact ⟨0, Nat.zero_le _, rfl, rfl, Cl.start w n _⟩
  case round =>
    obtain ⟨k, hk, rfl, rfl, hC⟩ := hrel
    by_cases hlt : k < n
    · have had := H.out.adr (by omega)
      simp only [Option.some.injEq] at had
      subst had
      have hlk := HLZ.out.1 k hlt
      have r0 := H.out.row k hlt
      have hbs : bs < w.heap.size := block_lt_of_cell r0
      have r1 := (hC.bel.cell (p := ⟨bs, os + k, none⟩) hbs).trans r0
      have hgl : (gOf L Z k).length = L k := gOf_len (H.out.len k hlt)
      have hneq := fun w a m c => run_neq_slice_nil_any (P := Try.prog) w 32 21 a m c 0 0 Try.underlying32
      clear r0
      generalize hAk : A k = ak at r1
      cases ak with
      | none =>
        have hl0 := (H.out.rnil k hlt hAk).1
        have C' := hC.skip hlt (List.eq_nil_of_length_eq_zero (hgl.trans hl0))
        have HC : Hid (Cl w.heap.size n w (gOf L Z) (k + 1) wr) := C'
        clear H hAk hl0 C' hC hgl
        go_wp2
        go_roundg (n - (k + 1))
        case measure => omega
        case rel => exact ⟨k + 1, by omega, rfl, by go_num, HC.out⟩
      | some ak =>
        have hmk := make_i32 (L k) hlk
        obtain ⟨R, hR, _, _⟩ := hC.top
        have hBl : w.heap.size < wr.heap.size := hR.lt
        have hZk := HLZ.out.2 k hlt
        have Hsrc : Hid (∀ o, ∀ j v, ((gOf L Z k).map fun x : Nat => Value.int .i32 (x : Int))[j]? = some v → (wr.alloc o).cell? (ak.add j) = some v) := by
          intro o j v hj
          rw [List.getElem?_map] at hj
          have hjl : j < L k := by
            rw [← hgl]
            rcases Nat.lt_or_ge j (gOf L Z k).length with h | h
            · exact h
            · rw [List.getElem?_eq_none h] at hj; cases hj
          obtain ⟨e1, e2⟩ := H.out.cel k hlt j hjl
          have hak : ak = ⟨RB k, RO k, none⟩ := by rw [hAk] at e1; simpa using e1
          have hlt2 := block_lt_of_cell e2
          subst hak
          rw [add_plain, World.cell?_alloc_past _ _ _ (by have := hC.bel.size; show RB k < wr.heap.size; have : RB k < w.heap.size := hlt2; omega), hC.bel.cell (p := ⟨RB k, RO k + j, none⟩) hlt2, e2]
          have hget := gOf_get (L := L) (Z := Z) (v := k) (H.out.len k hlt) hjl (hZk j hjl).1
          rw [← hget, ← hj, List.getElem?_eq_getElem (by omega)]
          simp [hgl, hjl]
        have hR1 := hR.cell hlt
        have hR2 := hR.free k
        have HC : Hid (Cl w.heap.size n w (gOf L Z) k wr) := hC
        have Hgl : Hid ((gOf L Z k).length = L k) := hgl
        clear H HLZ hAk hC hgl hZk hR
        go_wp2_with (refine wpList_copy_splice rfl (.tmp 24) (.tmp 25) 32 32 rfl 21 Try.underlying32 (by kernel_rfl) _ _ _ _ _ _ rfl rfl wr.heap.size 0 (List.replicate (L k) (.int .i32 0)) 21 ?c1 ((gOf L Z k).map fun x : Nat => Value.int .i32 (x : Int)) ?c2 ?c3 ?c4 ?c5 wr.heap.size wr ?c6 (Nat.le_refl _) ?_)
        case c1 => rw [← made_list]; exact blk_new _ _
        case c2 => rw [List.length_map, Hgl.out]; exact (Nat.min_self _).symm
        case c3 => intro _ j x hj; exact Hsrc.out _ j _ (by simp [hj])
        case c4 => simp [Hgl.out]
        case c5 => intro u hu; simp at hu; obtain ⟨_, _, rfl⟩ := hu; rfl
        case c6 => exact (Below.refl _ _).alloc (Nat.le_refl _) _
        intro w1 Hw1 hb1
        have hg1 : w1.heap[wr.heap.size]? = some (.cells (((gOf L Z k).map fun x : Nat => Value.int .i32 (x : Int)).toArray) 21 (0, 0)) := by
          have := Hw1.out
          rw [splice_all (by simp [Hgl.out])] at this
          exact this
        have C' := HC.out.step hb1 hg1 (L k)
        rw [Hgl.out] at C'
        have HC' : Hid (Cl w.heap.size n w (gOf L Z) (k + 1) (w1.setCell ⟨w.heap.size, k, none⟩ (.slice (some ⟨wr.heap.size, 0, none⟩) (L k) (L k)))) := C'
        have d1 := (hb1.cell (p := ⟨w.heap.size, k, none⟩) hBl).trans hR1
        have d2 := (hb1.frozen (p := ⟨w.heap.size, k, none⟩) hBl).trans hR2
        clear C' hg1 Hw1 hb1 HC hmk hR1 hR2 Hsrc
        go_wp2
        go_roundg (n - (k + 1))
        case measure => omega
        case rel => exact ⟨k + 1, by omega, rfl, by go_num, HC'.out⟩
    · obtain rfl : k = n := by omega
      have HR : Hid (ClonePost k (gOf L Z) w (.returned (.slice (some ⟨w.heap.size, 0, none⟩) k k)) wr) := ⟨_, _, _, rfl, hC.graph (fun v hv => by rw [gOf_len (H.out.len v hv)]; exact HLZ.out.1 v hv) (fun v hv y hy => gOf_mem (HLZ.out.2 v hv) hy), hC.bel⟩
      clear H hC HLZ
      go_wp2
      go_ret
      exact HR.out

theorem clone_any {bs os n c : Nat} {a : Option Addr} {A : Nat → Option Addr} {L C RB RO : Nat → Nat} {Z : Nat → List Int} (w : World) (h : InRows w a bs os n c A L C RB RO Z) (hn : n ≤ 65536) (hL : ∀ r, r < n → L r ≤ 65536)
    (hZ : ∀ r, r < n → ∀ j, j < L r → 0 ≤ (Z r).getD j 0 ∧ (Z r).getD j 0 < n) : Calls Try.prog 11 #[.slice a n c] w fun e w' => ClonePost n (gOf L Z) w e w' := by
  cases a with
  | none =>
    obtain ⟨rfl, rfl⟩ := h.nil rfl
    exact clone_nil w _
  | some ad => exact clone_some w h hn hL hZ

/-- What 'ZZComponents' gives. -/
def CompPost (n : Nat) (g : Nat → List Nat) (w : World) (e : Ending) (w' : World) : Prop :=
  ∃ bc, e = .returned (.slice (some ⟨bc, 0, none⟩) n n) ∧ Below w.heap.size w w' ∧ w.heap.size ≤ bc ∧ ∃ cN : Nat → Nat, RowIs w' bc 3 n (fun i => .int .i64 (cN i : Int)) ∧ Tj.Good n g (fun x => (cN x : Int))

theorem Good.toNat {n : Nat} {g : Nat → List Nat} {cp : Nat → Int} (h : Tj.Good n g cp) (hlt : ∀ v, v < n → ∀ y, y ∈ g v → y < n) : Tj.Good n g (fun x => ((cp x).toNat : Int)) := by
  have e : ∀ x, x < n → ((cp x).toNat : Int) = cp x := fun x hx => by have := h.ge x hx; omega
  refine ⟨fun x _ => by show (0 : Int) ≤ ((cp x).toNat : Int); omega, fun x hx l hl => ?_, fun x hx y hy => ?_, fun x hx => ?_, fun x y hx hy hxy => ?_⟩
  · have hl' : (l : Int) ≤ cp x := by rw [← e x hx]; exact hl
    obtain ⟨y, hy, hc⟩ := h.dense x hx l hl'
    exact ⟨y, hy, by show ((cp y).toNat : Int) = l; rw [e y hy]; exact hc⟩
  · show ((cp y).toNat : Int) ≤ ((cp x).toNat : Int)
    rw [e x hx, e y (hlt x hx y hy)]; exact h.fall x hx y hy
  · show ((cp x).toNat : Int) < n
    rw [e x hx]; exact h.lt x hx
  · have hxy' : ((cp x).toNat : Int) = ((cp y).toNat : Int) := hxy
    rw [e x hx, e y hy] at hxy'
    exact h.same x y hx hy hxy'

theorem comp12_any {a : Option Addr} {bs os n c : Nat} {g : Nat → List Nat} (w : World) (hn : n ≤ 65536) (hG : GraphAt w a bs os n g) :
    Calls Try.prog 12 #[.slice a n c] w fun e w' => CompPost n g w e w' := by
  have HG : Hid (GraphAt w a bs os n g) := hG
  clear hG
  go_enter Try.func12, Try.ntmps12
  go_wp2_with (go_at_call 21; refine (comp_any a bs os n c g w hn HG.out).mono ?_; rintro e w' ⟨rfl, hb, cp, hrow, hgood⟩)
  go_ret
  exact ⟨_, rfl, hb, by omega, fun x => (cp x).toNat, hrow.congr (fun i hi => by have := hgood.ge i hi; rw [Int.toNat_of_nonneg this]), Good.toNat hgood HG.out.lt⟩
end Go.Proofs.Qxb6004021a
