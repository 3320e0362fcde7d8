import Derived.Test.Qxb6004021aEnter
import Derived.Deep.LoopGhost
namespace Go.Proofs.Qxb6004021a
open Go.ChangeShapes Go.WideShapes Go.ChangeAt Go.RowKit
open Tj (upd St)

theorem Try.info4 : (Try.prog.info? 4).map (fun i => (i.zero, i.size, i.bytes)) = some (some (.bool false), 1, 1) := by kernel_rfl
theorem make_ints (n : Nat) (hn : n ≤ 65536) (w : World) :
    (Instr.makeSlice 28 (.int .i64 (n : Int)) (.int .i64 (n : Int))).run Try.prog w = .ok (.slice (some ⟨w.heap.size, 0, none⟩) n n) (w.alloc (.cells (madeCells #[.int .i64 0] n) 3)) := by
  obtain ⟨i0, hi, hz0, hz1, hz2⟩ := info_parts Try.info3
  have := run_make (P := Try.prog) w 28 3 i0 (.int .i64 0) Try.underlying28 hi hz0 .i64 .i64 n n (by omega) (by omega) (by rw [hz2]; omega) (by omega)
  rw [this, hz1]
  simp [Value.cells]
theorem make_bools (n : Nat) (hn : n ≤ 65536) (w : World) :
    (Instr.makeSlice 30 (.int .i64 (n : Int)) (.int .i64 (n : Int))).run Try.prog w = .ok (.slice (some ⟨w.heap.size, 0, none⟩) n n) (w.alloc (.cells (madeCells #[.bool false] n) 4)) := by
  obtain ⟨i0, hi, hz0, hz1, hz2⟩ := info_parts Try.info4
  have := run_make (P := Try.prog) w 30 4 i0 (.bool false) Try.underlying30 hi hz0 .i64 .i64 n n (by omega) (by omega) (by rw [hz2]; omega) (by omega)
  rw [this, hz1]
  simp [Value.cells]

/-- Ahead of the search: the four rows and three of the variables lie; 'order' holds -1 up to k. -/
structure Pre (B n : Nat) (w0 : World) (k : Nat) (w : World) : Prop where
  bel : Below B w0 w
  sz : w.heap.size = B + 7
  ord : RowIs w B 3 n (fun i => .int .i64 (if i < k then -1 else 0))
  vord : w.heap[B + 1]? = some (.cells #[.slice (some ⟨B, 0, none⟩) n n] 28 (0, 0))
  low : RowIs w (B + 2) 3 n (fun _ => .int .i64 0)
  vlow : w.heap[B + 3]? = some (.cells #[.slice (some ⟨B + 2, 0, none⟩) n n] 28 (0, 0))
  comp : RowIs w (B + 4) 3 n (fun _ => .int .i64 0)
  on : RowIs w (B + 5) 4 n (fun _ => .bool false)
  von : w.heap[B + 6]? = some (.cells #[.slice (some ⟨B + 5, 0, none⟩) n n] 30 (0, 0))

theorem RowIs.alloc {w : World} {b : Nat} {t : TypeId} {n : Nat} {f : Nat → Value} (h : RowIs w b t n f) (o : Obj) : RowIs (w.alloc o) b t n f := h.keep (Below.heap_alloc w o b h.lt)
theorem RowIs.made' (w : World) (z : Value) (t : TypeId) (n b : Nat) (hb : b = w.heap.size) : RowIs (w.alloc (.cells (madeCells #[z] n) t)) b t n (fun _ => z) := by subst hb; exact RowIs.made w z t n
theorem blk_new' (w : World) (o : Obj) (b : Nat) (hb : b = w.heap.size) : (w.alloc o).heap[b]? = some o := by subst hb; exact blk_new w o

theorem pre_start (n : Nat) (w : World) : Pre w.heap.size n w 0
    (((((((w.alloc (Obj.cells (madeCells #[Value.int IntKind.i64 0] n) 3)).alloc (Obj.cells #[Value.slice (some { block := w.heap.size, off := 0 }) n n] 28)).alloc (Obj.cells (madeCells #[Value.int IntKind.i64 0] n) 3)).alloc
      (Obj.cells #[Value.slice (some { block := w.heap.size + 1 + 1, off := 0 }) n n] 28)).alloc (Obj.cells (madeCells #[Value.int IntKind.i64 0] n) 3)).alloc (Obj.cells (madeCells #[Value.bool false] n) 4)).alloc
      (Obj.cells #[Value.slice (some { block := w.heap.size + 1 + 1 + 1 + 1 + 1, off := 0 }) n n] 30)) := by
  refine ⟨?_, by simp, ?_, ?_, ?_, ?_, ?_, ?_, ?_⟩
  · exact (((((((Below.refl _ _).alloc (Nat.le_refl _) _).alloc (by simp) _).alloc (by simp; omega) _).alloc (by simp; omega) _).alloc (by simp; omega) _).alloc (by simp; omega) _).alloc (by simp; omega) _
  · exact ((((((RowIs.made' w _ 3 n _ rfl).alloc _).alloc _).alloc _).alloc _).alloc _).alloc _
  · exact blk_old (blk_old (blk_old (blk_old (blk_old (blk_new' _ _ _ (by simp))))))
  · exact ((((RowIs.made' _ _ 3 n _ (by simp)).alloc _).alloc _).alloc _).alloc _
  · exact blk_old (blk_old (blk_old (blk_new' _ _ _ (by simp))))
  · exact ((RowIs.made' _ _ 3 n _ (by simp)).alloc _).alloc _
  · exact (RowIs.made' _ _ 4 n _ (by simp)).alloc _
  · exact blk_new' _ _ _ (by simp)

theorem pre_step {B n : Nat} {w0 w : World} {k : Nat} (h : Pre B n w0 k w) : Pre B n w0 (k + 1) (w.setCell ⟨B, k, none⟩ (.int .i64 (-1))) := by
  have e : ∀ b, b ≠ B → (w.setCell ⟨B, k, none⟩ (.int .i64 (-1))).heap[b]? = w.heap[b]? := fun b hb => blk_set_ne hb _ _
  refine ⟨h.bel.setCell (Nat.le_refl _) _, by rw [size_set]; exact h.sz, (h.ord.set k _).congr (fun i _ => ?_), (e _ (by omega)).trans h.vord, h.low.keep (e _ (by omega)), (e _ (by omega)).trans h.vlow, h.comp.keep (e _ (by omega)), h.on.keep (e _ (by omega)), (e _ (by omega)).trans h.von⟩
  by_cases hi : i = k
  · subst hi; simp [Tj.upd]
  · rw [Tj.upd_ne _ _ hi]
    by_cases h2 : i < k
    · rw [if_pos h2, if_pos (by omega)]
    · rw [if_neg h2, if_neg (by omega)]

theorem pre_done {B n : Nat} {w0 w : World} (h : Pre B n w0 n w) :
    Mem B n w0 Tj.st0 (.slice none 0 0) (.slice none 0 0) (((w.alloc (.cells #[.slice none 0 0] 47)).alloc (.cells #[.slice none 0 0] 28)).alloc (.cells #[.int .i64 0] 3)) := by
  have hz := h.sz
  refine ⟨((h.bel.alloc (by omega) _).alloc (by simp; omega) _).alloc (by simp; omega) _, by simp; omega, ((((h.ord.alloc _).alloc _).alloc _).congr (fun i hi => by simp [Tj.st0, hi])), blk_old (blk_old (blk_old h.vord)), ((h.low.alloc _).alloc _).alloc _, blk_old (blk_old (blk_old h.vlow)), ((h.comp.alloc _).alloc _).alloc _, ((h.on.alloc _).alloc _).alloc _, blk_old (blk_old (blk_old h.von)),
    blk_old (blk_old (blk_new' _ _ _ hz.symm)), World.ownsRow_nil _ _ _ _, blk_old (blk_new' _ _ _ (by simp; omega)), World.ownsRow_nil _ _ _ _, blk_new' _ _ _ (by simp; omega)⟩

/-- The graph in memory: row v is the list of v's successors. -/
structure GraphAt (w : World) (a : Option Addr) (bs os n : Nat) (g : Nat → List Nat) : Prop where
  adr : 0 < n → a = some ⟨bs, os, none⟩ ∧ bs < w.heap.size
  row : ∀ v, v < n → ∃ ar cap, w.cell? ⟨bs, os + v, none⟩ = some (.slice ar (g v).length cap) ∧ ∀ j, j < (g v).length → ∃ b o, ar = some ⟨b, o, none⟩ ∧ b < w.heap.size ∧ w.cell? ⟨b, o + j, none⟩ = some (.int .i32 ((g v).getD j 0 : Nat))
  len : ∀ v, v < n → (g v).length ≤ 65536
  lt : ∀ v, v < n → ∀ y, y ∈ g v → y < n

theorem GraphAt.below {w w' : World} {a : Option Addr} {bs os n : Nat} {g : Nat → List Nat} (h : GraphAt w a bs os n g) (hb : Below w.heap.size w w') : GraphAt w' a bs os n g := by
  refine ⟨fun hn => ⟨(h.adr hn).1, Nat.lt_of_lt_of_le (h.adr hn).2 hb.size⟩, fun v hv => ?_, h.len, h.lt⟩
  obtain ⟨ar, cap, h1, h2⟩ := h.row v hv
  refine ⟨ar, cap, (hb.cell (p := ⟨bs, os + v, none⟩) (h.adr (by omega)).2).trans h1, fun j hj => ?_⟩
  obtain ⟨b, o, e, hl, hc⟩ := h2 j hj
  exact ⟨b, o, e, Nat.lt_of_lt_of_le hl hb.size, (hb.cell (p := ⟨b, o + j, none⟩) hl).trans hc⟩

def NoEx : Nat → Nat → Prop := fun _ _ => False

set_option maxRecDepth 100000 in
set_option maxHeartbeats 20000000 in
theorem comp_any (a : Option Addr) (bs os n c : Nat) (g : Nat → List Nat) (w : World) (hn : n ≤ 65536) (hG : GraphAt w a bs os n g) :
    Calls Try.prog 21 #[.slice a n c] w fun e w' => e = .returned (.slice (some ⟨w.heap.size + 4, 0, none⟩) n n) ∧ Below w.heap.size w w' ∧ ∃ cp, RowIs w' (w.heap.size + 4) 3 n (fun i => .int .i64 (cp i)) ∧ Tj.Good n g cp := by
  have hm1 := make_ints n hn
  have hm2 := make_bools n hn
  have HG : Hid (GraphAt w a bs os n g) := hG
  clear hG
  go_enter Try.func21, Try.ntmps21
  go_wp2
  clear hm1 hm2
  go_loopg [33] n (fun gk i wr => ∃ k : Nat, k ≤ n ∧ gk = n - k ∧ i = .int .i64 k ∧ Pre w.heap.size n w k wr)
  case atStart => exact ⟨0, Nat.zero_le _, rfl, rfl, pre_start n w⟩
  case round =>
    obtain ⟨k, hk, rfl, rfl, hP⟩ := hrel
    by_cases hlt : k < n
    · --<A
      have hlt' : (k : Int) < (n : Int) := by omega
      have c1 := cell_of_one hP.vord
      have o1 := hP.ord.cell hlt
      have f1 := hP.ord.free k
      have P' := pre_step hP
      clear hP
      go_wp2
      go_roundg (n - (k + 1))
      case measure => omega
      case rel => exact ⟨k + 1, by omega, rfl, by go_num, P'⟩
    · obtain rfl : k = n := by omega
      have hsz := hP.sz
      have M0 := pre_done hP
      clear hP
      go_wp2
      clear hsz
      simp only [Nat.add_assoc, Nat.reduceAdd]
      go_loopg [42, 12] k (fun gk i lab wr => ∃ (r : Nat) (s : St) (vc vs : Value), r ≤ k ∧ gk = k - r ∧ i = .int .i64 r ∧ lab = .int .i64 s.labels ∧ Tj.Inv k g NoEx s ∧ s.calls = [] ∧ (∀ x, x < r → 0 ≤ s.order x) ∧ Mem w.heap.size k w s vc vs wr)
      case atStart => exact ⟨0, Tj.st0, _, _, Nat.zero_le _, rfl, rfl, rfl, Tj.st0_inv k g, rfl, fun x hx => absurd hx (by omega), M0⟩
      case round =>
        clear M0
        obtain ⟨r, s, vc, vs, hr, rfl, rfl, rfl, hI, hcn, hseen, hM⟩ := hrel
        by_cases hrk : r < k
        · have hrk' : (r : Int) < (k : Int) := by omega
          have c1 := cell_of_one hM.vord
          have o1 := hM.ord.cell hrk
          by_cases ho : s.order r = -1
          · have ht : (s.order r != -1) = false := by rw [ho]; rfl
            have hrc : s.reached + Tj.sumTo (fun x => if s.order x = -1 then 1 else 0) k = k := hI.c3
            have hr1 : s.reached ≤ 65536 := by omega
            have hr2 : s.calls.length ≤ 65536 := Nat.le_trans hI.c1 hr1
            have hr3 : s.stack.length ≤ 65536 := by have := hI.c2; omega
            have H1 : Hid (Tj.Inv k g NoEx (Tj.enter s r) ∧ (∀ x, x < r + 1 → 0 ≤ (Tj.enter s r).order x)) := ⟨Tj.enter_inv hI hrk ho (fun _ _ _ f => f.elim) (fun u ⟨q, hq⟩ => by rw [hcn] at hq; cases hq), fun x hx => by
              show 0 ≤ upd s.order r s.reached x
              by_cases e : x = r
              · subst e; rw [Tj.upd_same]; omega
              · rw [Tj.upd_ne _ _ e]; exact hseen x (by omega)⟩
            clear hI hcn hseen ho hrc
            go_wp2_with (go_at_call 24; refine (enter_any r _ hM hrk hr1 hr2 hr3).mono ?_; rintro e w1 ⟨rfl, vc1, vs1, hM1⟩)
            have hlab : (Tj.enter s r).labels = s.labels := rfl
            generalize Tj.enter s r = s1 at H1 hM1 hlab
            clear hM c1 o1 ht hr1 hr2 hr3
            go_loopg [12] (Tj.mu k g s1) (fun gk lab wr => ∃ (s : St) (vc vs : Value), gk = Tj.mu k g s ∧ lab = .int .i64 s.labels ∧ Tj.Inv k g NoEx s ∧ (∀ x, x < r + 1 → 0 ≤ s.order x) ∧ Mem w.heap.size k w s vc vs wr)
            case atStart => exact ⟨s1, vc1, vs1, rfl, by rw [hlab], H1.out.1, H1.out.2, hM1⟩
            case round =>
              clear hlab H1 hM1
              obtain ⟨s, vc, vs, rfl, rfl, hI, hseen, hM⟩ := hrel
              cases hcs : s.calls with
              | nil =>
                obtain ⟨av, cv, rfl⟩ := own_shape hM.ocal
                have c7 := cell_of_one hM.vcal
                rw [hcs] at c7
                simp only [List.length_nil] at c7
                have H1 : Hid (Tj.Inv k g NoEx s ∧ s.calls = [] ∧ (∀ x, x < r + 1 → 0 ≤ s.order x)) := ⟨hI, hcs, hseen⟩
                have HM : Hid (∃ vc vs, Mem w.heap.size k w s vc vs wr) := ⟨_, _, hM⟩
                clear hI hcs hseen hM
                go_wp2
                obtain ⟨vc2, vs2, hM⟩ := HM.out
                go_roundg (k - (r + 1))
                case measure => omega
                case rel => exact ⟨r + 1, s, vc2, vs2, by omega, rfl, by go_num, rfl, H1.out.1, H1.out.2.1, H1.out.2.2, hM⟩
              | cons f rest =>
                obtain ⟨v, nx⟩ := f
                have hoc := hM.ocal
                rw [hcs] at hoc
                obtain ⟨gc, cap, hvc, hgc, hcap⟩ := own_some hoc
                subst hvc
                have hfv : Tj.IsFr s v := ⟨nx, by rw [hcs]; exact List.mem_cons_self ..⟩
                have hvk : v < k := hI.st_lt v (hI.fr_st v hfv)
                have hvk' : (v : Int) < (k : Int) := by omega
                have c7 := cell_of_one hM.vcal
                have t0 : wr.cell? ⟨gc, rest.length * 2, none⟩ = some (.int .i64 (v : Int)) := (hoc.cellAt _ (by omega)).trans (frames_v v nx rest)
                have t1 : wr.cell? ⟨gc, rest.length * 2 + 1, none⟩ = some (.int .i64 (nx : Int)) := (hoc.cellAt _ (by omega)).trans (frames_nx v nx rest)
                have t2 : wr.frozen? ⟨gc, rest.length * 2 + 1, none⟩ = false := hoc.frozenAt _
                have hrl : rest.length + 1 ≤ 65536 := by have h1 := hI.c1; have h3 := hI.c3; rw [hcs] at h1; simp only [List.length_cons] at h1; omega
                clear hoc
                have hGr := HG.out.below hM.bel
                obtain ⟨ha, hbs⟩ := hGr.adr (by omega)
                obtain ⟨ar, capv, r0, r1⟩ := hGr.row v hvk
                have hlen := hGr.len v hvk
                have hGlt := hGr.lt v hvk
                clear hGr
                subst ha
                by_cases hnx : nx < (g v).length
                · obtain ⟨b, o, hab, hbl, r2⟩ := r1 nx hnx
                  clear r1
                  subst hab
                  have hnx' : (nx : Int) < ((g v).length : Int) := by omega
                  have hym : (g v)[nx] ∈ g v := List.getElem_mem hnx
                  have hye : (g v).getD nx 0 = (g v)[nx] := by simp [hnx]
                  rw [hye] at r2
                  have hyk : (g v)[nx] < k := hGlt _ hym
                  have HIa : Hid (Tj.Inv k g (fun x j => x = v ∧ j = nx) (Tj.adv s v nx rest)) := Tj.adv_inv hI hcs hnx
                  have HMa : Hid (Mem w.heap.size k w (Tj.adv s v nx rest) (.slice (some ⟨gc, 0, none⟩) (rest.length + 1) cap) vs (wr.setCell ⟨gc, rest.length * 2 + 1, none⟩ (.int .i64 ((nx + 1 : Nat) : Int)))) := hM.setNext hcs (nx + 1)
                  have Hmu : Hid (Tj.mu k g (Tj.adv s v nx rest) < Tj.mu k g s) := Tj.mu_adv hcs hnx
                  have Hex : Hid (∀ x j (hj : j < (g x).length), (x = v ∧ j = nx) → (g x)[j] = (g v)[nx]) := fun x j hj ⟨e1, e2⟩ => by subst e1 e2; rfl
                  have c1 := cell_of_one hM.vord
                  have c6 := cell_of_one hM.von
                  have o1 := hM.ord.cell hyk
                  have q1 := hM.on.cell hyk
                  have HYg : Hid ((g v)[nx] ∈ g v) := hym
                  have Hon := hI.on _ hyk
                  have Hge := hI.or_ge _ hyk
                  have hc1 := hI.c1
                  have hc2 := hI.c2
                  have hc3 := hI.c3
                  have hr1 : s.reached ≤ 65536 := by omega
                  have hr2 : (Tj.adv s v nx rest).calls.length ≤ 65536 := by show rest.length + 1 ≤ 65536; omega
                  have hr3 : s.stack.length ≤ 65536 := by omega
                  have hnb : nx ≤ 65536 := by omega
                  clear hye hym hGlt hc1 hc2 hc3
                  generalize hy : (g v)[nx] = y at *
                  have hyk' : (y : Int) < (k : Int) := by omega
                  have HY : Hid ((g v)[nx] = y) := hy
                  clear hy
                  by_cases hoy : s.order y = -1
                  · --<E
                    have ht : (s.order y == -1) = true := by rw [hoy]; rfl
                    have Ho : Hid (s.order y = -1) := hoy
                    have Hseen : Hid (∀ x, x < r + 1 → 0 ≤ s.order x) := hseen
                    have Hfr : Hid (∀ u, Tj.IsFr (Tj.adv s v nx rest) u → Tj.Reach g u y) := fun u hu => by
                      have hu' := (Tj.isFr_adv hcs u).1 hu
                      exact (hI.tr u hu' v (hI.fr_st v hfv) (hI.fr_top hcs hu')).trans (Tj.Reach.edge HYg.out)
                    clear hoy hseen hI hM hcs hfv Hon Hge q1 c6
                    go_wp2_with fail
                    go_quiet (fail)
                    go_wp2_with fail
                    go_quiet (fail)
                    go_wp2_with fail
                    refine (enter_any (s := Tj.adv s v nx rest) (w0 := w) y _ (by exact HMa.out.drewN _) hyk hr1 hr2 hr3).mono ?_
                    rintro e w1 ⟨rfl, vc1, vs1, hM1⟩
                    go_wp2
                    go_roundg (Tj.mu k g (Tj.enter (Tj.adv s v nx rest) y))
                    case measure => rw [Tj.mu_enter (s := Tj.adv s v nx rest) hyk Ho.out]; exact Hmu.out
                    case rel =>
                      refine ⟨_, vc1, vs1, rfl, rfl, Tj.enter_inv HIa.out hyk Ho.out (fun x j hj hh => (Hex.out x j hj hh)) Hfr.out, fun x hx => ?_, hM1⟩
                      show 0 ≤ upd s.order y s.reached x
                      by_cases e : x = y
                      · subst e; rw [Tj.upd_same]; omega
                      · rw [Tj.upd_ne _ _ e]; exact Hseen.out x hx
                  · have ht : (s.order y == -1) = false := by rw [beq_eq_false_iff_ne]; exact hoy
                    have Ho : Hid (0 ≤ s.order y) := by show 0 ≤ s.order y; omega
                    have Hseen : Hid (∀ x, x < r + 1 → 0 ≤ s.order x) := hseen
                    cases hon : s.onSt y with
                    | false =>
                      have Hns : Hid (y ∉ s.stack) := fun hm => by rw [Hon.2 hm] at hon; cases hon
                      rw [hon] at q1
                      clear hoy hseen hI hM hcs hfv Hon Hge hon
                      go_wp2_with fail
                      go_quiet (fail)
                      go_wp2_with fail
                      go_quiet (fail)
                      go_wp2_with fail
                      go_roundg (Tj.mu k g (Tj.adv s v nx rest))
                      case measure => exact Hmu.out
                      case rel => exact ⟨_, _, vs, rfl, rfl, Tj.off_inv HIa.out (fun x j hj hh => Hex.out x j hj hh) Ho.out Hns.out, Hseen.out, HMa.out.drewN _⟩
                    | true =>
                      have Hns : Hid (y ∈ s.stack) := Hon.1 hon
                      rw [hon] at q1
                      have c3 := cell_of_one hM.vlow
                      have l1 := hM.low.cell hvk
                      have l2 := hM.low.free v
                      by_cases hml : s.low v ≤ s.order y
                      · have HML : Hid (Mem w.heap.size k w (Tj.lower (Tj.adv s v nx rest) v (s.order y)) (.slice (some ⟨gc, 0, none⟩) (rest.length + 1) cap) vs ((wr.setCell ⟨gc, rest.length * 2 + 1, none⟩ (.int .i64 ((nx + 1 : Nat) : Int))).setCell ⟨w.heap.size + 2, v, none⟩ (.int .i64 (s.low v)))) := by
                          have h1 := HMa.out.setLow v (s.low v)
                          have e : min ((Tj.adv s v nx rest).low v) (s.order y) = s.low v := Int.min_eq_left hml
                          unfold Hid Tj.lower
                          rw [e]; exact h1
                        clear hoy hseen hI hM hcs hfv Hon Hge hon
                        go_wp2_with fail
                        go_quiet (fail)
                        go_wp2_with fail
                        go_quiet (fail)
                        go_wp2_with fail
                        go_region
                        go_wp2_with fail
                        go_roundg (Tj.mu k g (Tj.adv s v nx rest))
                        case measure => exact Hmu.out
                        case rel =>
                          exact ⟨Tj.lower (Tj.adv s v nx rest) v (s.order y), .slice (some ⟨gc, 0, none⟩) (rest.length + 1) cap, vs, rfl, rfl, Tj.on_inv HIa.out rfl (fun x j hh => ⟨hh.1, fun hj => Hex.out x j hj hh⟩) Hns.out HYg.out, Hseen.out, (HML.out.drewN _).drew⟩
                      · have hml' : s.order y < s.low v := by omega
                        have HML : Hid (Mem w.heap.size k w (Tj.lower (Tj.adv s v nx rest) v (s.order y)) (.slice (some ⟨gc, 0, none⟩) (rest.length + 1) cap) vs ((wr.setCell ⟨gc, rest.length * 2 + 1, none⟩ (.int .i64 ((nx + 1 : Nat) : Int))).setCell ⟨w.heap.size + 2, v, none⟩ (.int .i64 (s.order y)))) := by
                          have h1 := HMa.out.setLow v (s.order y)
                          have e : min ((Tj.adv s v nx rest).low v) (s.order y) = s.order y := Int.min_eq_right (by show s.order y ≤ s.low v; omega)
                          unfold Hid Tj.lower
                          rw [e]; exact h1
                        clear hoy hseen hI hM hcs hfv Hon Hge hon
                        go_wp2_with fail
                        go_quiet (fail)
                        go_wp2_with fail
                        go_quiet (fail)
                        go_wp2_with fail
                        go_region
                        go_wp2_with fail
                        go_roundg (Tj.mu k g (Tj.adv s v nx rest))
                        case measure => exact Hmu.out
                        case rel =>
                          exact ⟨Tj.lower (Tj.adv s v nx rest) v (s.order y), .slice (some ⟨gc, 0, none⟩) (rest.length + 1) cap, vs, rfl, rfl, Tj.on_inv HIa.out rfl (fun x j hh => ⟨hh.1, fun hj => Hex.out x j hj hh⟩) Hns.out HYg.out, Hseen.out, (HML.out.drewN _).drew⟩
                · have hnxe : nx = (g v).length := by have := hI.fr_le v nx (by rw [hcs]; exact List.mem_cons_self ..); omega
                  have hvs := hI.fr_st v hfv
                  have c1 := cell_of_one hM.vord
                  have c3 := cell_of_one hM.vlow
                  have o1 := hM.ord.cell hvk
                  have l1 := hM.low.cell hvk
                  have g7 := free_of_one hM.vcal
                  have Hseen : Hid (∀ x, x < r + 1 → 0 ≤ s.order x) := hseen
                  have hc2 := hI.c2
                  have hc3 := hI.c3
                  have hlb : s.labels ≤ 65536 := by omega
                  have hsl : s.stack.length ≤ 65536 := by omega
                  have hnlt : ¬ (nx : Int) < ((g v).length : Int) := by omega
                  have hdec : decide ((nx : Int) < ((g v).length : Int)) = false := decide_eq_false hnlt
                  clear r1 hc2 hc3 hseen
                  cases rest with
                  | nil =>
                    have hoc := hM.ocal
                    rw [hcs] at hoc
                    have hlo : s.low v = s.order v := by
                      by_cases e : s.low v = s.order v
                      · exact e
                      · exfalso
                        obtain ⟨y, hy, hyo, _⟩ := hI.re v (hI.fr_st v hfv)
                        obtain ⟨u, ⟨q, hq⟩, hule, _⟩ := hI.toFr _ y hy rfl
                        rw [hcs] at hq
                        have hq' : u = v := by simp at hq; exact hq.1
                        subst hq'
                        have := hI.lo_le u (hI.fr_st u hfv); omega

                    obtain ⟨A, R, hAR⟩ := List.append_of_mem hvs
                    have HA : Hid (s.stack = A ++ v :: R) := hAR
                    have Hmub : Hid (Tj.mu k g (Tj.back s [] v) < Tj.mu k g s) := Tj.mu_back hcs
                    have HIt : Hid (Tj.Inv k g NoEx (Tj.take (Tj.back s [] v) (A ++ [v]) R)) := Tj.take_inv hI hcs hnxe hlo hAR (fun x hx => HG.out.lt x hx)
                    have Hxs : Hid (∀ x, x ∈ A → x < k ∧ x ≠ v) := fun x hx => by
                      have hso := hI.st_so
                      rw [hAR, List.pairwise_append] at hso
                      have h1 := hso.2.2 x hx v (List.mem_cons_self ..)
                      exact ⟨hI.st_lt x (by rw [hAR]; exact List.mem_append_left _ hx), fun e => by subst e; omega⟩
                    have Hlen : Hid ((A ++ v :: R).length ≤ 65536) := by rw [← hAR]; exact hsl
                    have hRl : R.length ≤ 65536 := by rw [hAR] at hsl; simp only [List.length_append, List.length_cons] at hsl; omega

                    have HMb : Hid (Mem w.heap.size k w (Tj.back s [] v) (.slice (some ⟨gc, 0, none⟩) 0 cap) vs (wr.setCell ⟨w.heap.size + 7, 0, none⟩ (.slice (some ⟨gc, 0, none⟩) 0 cap))) := hM.popCalls (rest := []) hcs
                    have hne : (s.low v != s.order v) = false := by rw [hlo]; simp
                    simp only [List.length_nil, Nat.zero_add, Nat.zero_mul] at c7 t0 t1 t2
                    clear hI hM hcs hfv hoc hlo hAR hsl hvs hnxe
                    go_wp2_with fail
                    go_quiet (fail)
                    go_wp2_with fail
                    go_quiet (fail)
                    go_wp2_with fail

                    go_loopg [] A.length (fun gk wx => ∃ (A' P : List Nat) (vs' : Value), gk = A'.length ∧ A = P ++ A' ∧ Mem w.heap.size k w (popping (Tj.back s [] v) P (A' ++ v :: R)) (.slice (some ⟨gc, 0, none⟩) 0 cap) vs' wx)
                    case atStart => exact ⟨A, [], vs, rfl, rfl, by
                      have e : popping (Tj.back s [] v) [] (A ++ v :: R) = Tj.back s [] v := by
                        have := popping_nil (Tj.back s [] v)
                        rw [show (Tj.back s [] v).stack = A ++ v :: R from HA.out] at this
                        exact this
                      rw [e]; exact ((HMb.out.drewN _).drewN _)⟩
                    case round =>
                      obtain ⟨A', P, vs', rfl, hA, hMx⟩ := hrel
                      have HAP : Hid (A = P ++ A') := hA
                      clear hA
                      cases A' with
                      | nil =>
                        obtain ⟨gs, caps, hvs, hgs, hcaps⟩ := own_some (m := R.length) hMx.ostk
                        subst hvs
                        have c8 := cell_of_one hMx.vstk
                        have g8 := free_of_one hMx.vstk
                        have s1 : wr.cell? ⟨gs, R.length, none⟩ = some (.int .i64 (v : Int)) := (hMx.ostk.cellAt _ (by show R.length < (R.length + 1) * 1; omega)).trans (nodes_top v R)
                        have c6 := cell_of_one hMx.von
                        have q5 := hMx.on.cell hvk
                        have p5 := hMx.on.free v
                        have q4 := hMx.comp.cell hvk
                        have p4 := hMx.comp.free v
                        have HMp := (Mem.popOne (s := Tj.back s [] v) (P := P) (x := v) (l := R) hMx).setLab (s.labels + 1)
                        have HMp : Hid (Mem w.heap.size k w (Tj.take (Tj.back s [] v) (P ++ [v]) R) (.slice (some ⟨gc, 0, none⟩) 0 cap) (.slice (some ⟨gs, 0, none⟩) R.length caps)
                          (((wr.setCell ⟨w.heap.size + 8, 0, none⟩ (.slice (some ⟨gs, 0, none⟩) R.length caps)).setCell ⟨w.heap.size + 5, v, none⟩ (.bool false)).setCell ⟨w.heap.size + 4, v, none⟩ (.int .i64 (s.labels : Int)))) := HMp
                        clear hMx
                        go_wp2
                        go_roundg (Tj.mu k g (Tj.back s [] v))
                        case measure => exact Hmub.out
                        case rel =>
                          have e : A = P := by rw [HAP.out]; simp
                          subst e
                          exact ⟨Tj.take (Tj.back s [] v) (A ++ [v]) R, _, _, rfl, by go_num, HIt.out, Hseen.out, HMp.out⟩
                      | cons x A2 =>
                        obtain ⟨gs, caps, hvs, hgs, hcaps⟩ := own_some (m := (A2 ++ v :: R).length) hMx.ostk
                        subst hvs
                        have hxA : x ∈ A := by rw [HAP.out]; simp
                        obtain ⟨hxk, hxv⟩ := Hxs.out x hxA
                        have hxk' : (x : Int) < (k : Int) := by omega
                        have hxv' : ((x : Int) == (v : Int)) = false := by rw [beq_eq_false_iff_ne]; omega
                        have hll := Hlen.out
                        have hal : (A2 ++ v :: R).length ≤ 65536 := by rw [HAP.out] at hll; simp only [List.length_append, List.length_cons] at hll ⊢; omega
                        have c8 := cell_of_one hMx.vstk
                        have g8 := free_of_one hMx.vstk
                        have s1 : wr.cell? ⟨gs, (A2 ++ v :: R).length, none⟩ = some (.int .i64 (x : Int)) := (hMx.ostk.cellAt _ (by show (A2 ++ v :: R).length < ((A2 ++ v :: R).length + 1) * 1; omega)).trans (nodes_top x (A2 ++ v :: R))
                        have c6 := cell_of_one hMx.von
                        have q5 := hMx.on.cell hxk
                        have p5 := hMx.on.free x
                        have q4 := hMx.comp.cell hxk
                        have p4 := hMx.comp.free x
                        have HMp : Hid (Mem w.heap.size k w (popping (Tj.back s [] v) (P ++ [x]) (A2 ++ v :: R)) (.slice (some ⟨gc, 0, none⟩) 0 cap) (.slice (some ⟨gs, 0, none⟩) (A2 ++ v :: R).length caps)
                          (((wr.setCell ⟨w.heap.size + 8, 0, none⟩ (.slice (some ⟨gs, 0, none⟩) (A2 ++ v :: R).length caps)).setCell ⟨w.heap.size + 5, x, none⟩ (.bool false)).setCell ⟨w.heap.size + 4, x, none⟩ (.int .i64 (s.labels : Int)))) :=
                          Mem.popOne (s := Tj.back s [] v) (P := P) (x := x) (l := A2 ++ v :: R) hMx
                        clear hMx hll
                        generalize (A2 ++ v :: R).length = ll at *
                        go_wp2
                        go_roundg A2.length
                        case measure => simp
                        case rel => exact ⟨A2, P ++ [x], .slice (some ⟨gs, 0, none⟩) ll caps, rfl, by rw [HAP.out]; simp, HMp.out⟩
                  | cons f2 r2 =>
                    obtain ⟨u, nu⟩ := f2
                    have hoc := hM.ocal
                    rw [hcs] at hoc
                    have t3 : wr.cell? ⟨gc, r2.length * 2, none⟩ = some (.int .i64 (u : Int)) := (hoc.cellAt _ (by simp only [List.length_cons]; omega)).trans (frames_u v nx u nu r2)
                    have huf : Tj.IsFr s u := ⟨nu, by rw [hcs]; exact List.mem_cons_of_mem _ (List.mem_cons_self ..)⟩
                    have hul := hI.rest_lt hcs (List.mem_cons_self .. : (u, nu) ∈ (u, nu) :: r2)
                    have hus := hI.fr_st u huf
                    have huk : u < k := hI.st_lt u hus
                    have huk' : (u : Int) < (k : Int) := by omega
                    have huv : ¬ u = v := fun e => by subst e; omega
                    have hvu : ¬ v = u := fun e => huv e.symm
                    have l3 := hM.low.cell huk
                    have f3 := hM.low.free u
                    simp only [List.length_cons] at c7 t0 t1 t2 hcap hrl
                    clear hoc
                    by_cases hlo : s.low v = s.order v
                    · --<I
                      have hlu := hI.lo_le u hus
                      have hml : s.low u ≤ s.low v := by omega
                      have hmin : min (s.low u) (s.low v) = s.low u := Int.min_eq_left hml
                      obtain ⟨A, R, hAR⟩ := List.append_of_mem hvs
                      have HA : Hid (s.stack = A ++ v :: R) := hAR
                      have Hmub : Hid (Tj.mu k g (Tj.back s ((u, nu) :: r2) v) < Tj.mu k g s) := Tj.mu_back hcs
                      have HIt : Hid (Tj.Inv k g NoEx (Tj.take (Tj.back s ((u, nu) :: r2) v) (A ++ [v]) R)) := Tj.take_inv hI hcs hnxe hlo hAR (fun x hx => HG.out.lt x hx)
                      have Hxs : Hid (∀ x, x ∈ A → x < k ∧ x ≠ v) := fun x hx => by
                        have hso := hI.st_so
                        rw [hAR, List.pairwise_append] at hso
                        have h1 := hso.2.2 x hx v (List.mem_cons_self ..)
                        exact ⟨hI.st_lt x (by rw [hAR]; exact List.mem_append_left _ hx), fun e => by subst e; omega⟩
                      have Hlen : Hid ((A ++ v :: R).length ≤ 65536) := by rw [← hAR]; exact hsl
                      have hRl : R.length ≤ 65536 := by rw [hAR] at hsl; simp only [List.length_append, List.length_cons] at hsl; omega
                      have HMb : Hid (Mem w.heap.size k w (Tj.back s ((u, nu) :: r2) v) (.slice (some ⟨gc, 0, none⟩) (r2.length + 1) cap) vs ((wr.setCell ⟨w.heap.size + 7, 0, none⟩ (.slice (some ⟨gc, 0, none⟩) (r2.length + 1) cap)).setCell ⟨w.heap.size + 2, u, none⟩ (.int .i64 (s.low u)))) := by
                        have h1 := (hM.popCalls hcs).setLow u (s.low u)
                        have e : Tj.back s ((u, nu) :: r2) v = { ({ s with calls := (u, nu) :: r2 } : St) with low := upd s.low u (s.low u) } := by
                          show ({ s with calls := (u, nu) :: r2, low := upd s.low u (min (s.low u) (s.low v)) } : St) = _
                          rw [hmin]
                        unfold Hid
                        rw [e]; exact h1
                      have hne : (s.low v != s.order v) = false := by rw [hlo]; simp
                      clear hI hM hcs hfv huf hul hus hlo hAR hsl hvs hnxe hmin hlu
                      go_wp2_with fail
                      go_quiet (fail)
                      go_wp2_with fail
                      go_region
                      go_wp2_with fail
                      go_quiet (fail)
                      go_wp2_with fail
                      go_loopg [] A.length (fun gk wx => ∃ (A' P : List Nat) (vs' : Value), gk = A'.length ∧ A = P ++ A' ∧ Mem w.heap.size k w (popping (Tj.back s ((u, nu) :: r2) v) P (A' ++ v :: R)) (.slice (some ⟨gc, 0, none⟩) (r2.length + 1) cap) vs' wx)
                      case atStart => exact ⟨A, [], vs, rfl, rfl, by
                        have e : popping (Tj.back s ((u, nu) :: r2) v) [] (A ++ v :: R) = Tj.back s ((u, nu) :: r2) v := by
                          have := popping_nil (Tj.back s ((u, nu) :: r2) v)
                          rw [show (Tj.back s ((u, nu) :: r2) v).stack = A ++ v :: R from HA.out] at this
                          exact this
                        rw [e]; exact (((HMb.out.drewN _).drew).drewN _)⟩
                      case round =>
                        obtain ⟨A', P, vs', rfl, hA, hMx⟩ := hrel
                        have HAP : Hid (A = P ++ A') := hA
                        clear hA
                        cases A' with
                        | nil =>
                          obtain ⟨gs, caps, hvs, hgs, hcaps⟩ := own_some (m := R.length) hMx.ostk
                          subst hvs
                          have c8 := cell_of_one hMx.vstk
                          have g8 := free_of_one hMx.vstk
                          have s1 : wr.cell? ⟨gs, R.length, none⟩ = some (.int .i64 (v : Int)) := (hMx.ostk.cellAt _ (by show R.length < (R.length + 1) * 1; omega)).trans (nodes_top v R)
                          have c6 := cell_of_one hMx.von
                          have q5 := hMx.on.cell hvk
                          have p5 := hMx.on.free v
                          have q4 := hMx.comp.cell hvk
                          have p4 := hMx.comp.free v
                          have HMp := (Mem.popOne (s := Tj.back s ((u, nu) :: r2) v) (P := P) (x := v) (l := R) hMx).setLab (s.labels + 1)
                          have HMp : Hid (Mem w.heap.size k w (Tj.take (Tj.back s ((u, nu) :: r2) v) (P ++ [v]) R) (.slice (some ⟨gc, 0, none⟩) (r2.length + 1) cap) (.slice (some ⟨gs, 0, none⟩) R.length caps)
                            (((wr.setCell ⟨w.heap.size + 8, 0, none⟩ (.slice (some ⟨gs, 0, none⟩) R.length caps)).setCell ⟨w.heap.size + 5, v, none⟩ (.bool false)).setCell ⟨w.heap.size + 4, v, none⟩ (.int .i64 (s.labels : Int)))) := HMp
                          clear hMx
                          go_wp2
                          go_roundg (Tj.mu k g (Tj.back s ((u, nu) :: r2) v))
                          case measure => exact Hmub.out
                          case rel =>
                            have e : A = P := by rw [HAP.out]; simp
                            subst e
                            exact ⟨Tj.take (Tj.back s ((u, nu) :: r2) v) (A ++ [v]) R, _, _, rfl, by go_num, HIt.out, Hseen.out, HMp.out⟩
                        | cons x A2 =>
                          obtain ⟨gs, caps, hvs, hgs, hcaps⟩ := own_some (m := (A2 ++ v :: R).length) hMx.ostk
                          subst hvs
                          have hxA : x ∈ A := by rw [HAP.out]; simp
                          obtain ⟨hxk, hxv⟩ := Hxs.out x hxA
                          have hxk' : (x : Int) < (k : Int) := by omega
                          have hxv' : ((x : Int) == (v : Int)) = false := by rw [beq_eq_false_iff_ne]; omega
                          have hll := Hlen.out
                          have hal : (A2 ++ v :: R).length ≤ 65536 := by rw [HAP.out] at hll; simp only [List.length_append, List.length_cons] at hll ⊢; omega
                          have c8 := cell_of_one hMx.vstk
                          have g8 := free_of_one hMx.vstk
                          have s1 : wr.cell? ⟨gs, (A2 ++ v :: R).length, none⟩ = some (.int .i64 (x : Int)) := (hMx.ostk.cellAt _ (by show (A2 ++ v :: R).length < ((A2 ++ v :: R).length + 1) * 1; omega)).trans (nodes_top x (A2 ++ v :: R))
                          have c6 := cell_of_one hMx.von
                          have q5 := hMx.on.cell hxk
                          have p5 := hMx.on.free x
                          have q4 := hMx.comp.cell hxk
                          have p4 := hMx.comp.free x
                          have HMp : Hid (Mem w.heap.size k w (popping (Tj.back s ((u, nu) :: r2) v) (P ++ [x]) (A2 ++ v :: R)) (.slice (some ⟨gc, 0, none⟩) (r2.length + 1) cap) (.slice (some ⟨gs, 0, none⟩) (A2 ++ v :: R).length caps)
                            (((wr.setCell ⟨w.heap.size + 8, 0, none⟩ (.slice (some ⟨gs, 0, none⟩) (A2 ++ v :: R).length caps)).setCell ⟨w.heap.size + 5, x, none⟩ (.bool false)).setCell ⟨w.heap.size + 4, x, none⟩ (.int .i64 (s.labels : Int)))) :=
                            Mem.popOne (s := Tj.back s ((u, nu) :: r2) v) (P := P) (x := x) (l := A2 ++ v :: R) hMx
                          clear hMx hll
                          generalize (A2 ++ v :: R).length = ll at *
                          go_wp2
                          go_roundg A2.length
                          case measure => simp
                          case rel => exact ⟨A2, P ++ [x], .slice (some ⟨gs, 0, none⟩) ll caps, rfl, by rw [HAP.out]; simp, HMp.out⟩
                    · have hne : (s.low v != s.order v) = true := by rw [bne_iff_ne]; exact hlo
                      by_cases hml : s.low u ≤ s.low v
                      · --<J
                        have hmin : min (s.low u) (s.low v) = s.low u := Int.min_eq_left hml
                        have HMb : Hid (Mem w.heap.size k w (Tj.back s ((u, nu) :: r2) v) (.slice (some ⟨gc, 0, none⟩) (r2.length + 1) cap) vs ((wr.setCell ⟨w.heap.size + 7, 0, none⟩ (.slice (some ⟨gc, 0, none⟩) (r2.length + 1) cap)).setCell ⟨w.heap.size + 2, u, none⟩ (.int .i64 (s.low u)))) := by
                          have h1 := (hM.popCalls hcs).setLow u (s.low u)
                          have e : Tj.back s ((u, nu) :: r2) v = { ({ s with calls := (u, nu) :: r2 } : St) with low := upd s.low u (s.low u) } := by
                            show ({ s with calls := (u, nu) :: r2, low := upd s.low u (min (s.low u) (s.low v)) } : St) = _
                            rw [hmin]
                          unfold Hid
                          rw [e]; exact h1
                        have HIb : Hid (Tj.Inv k g NoEx (Tj.back s ((u, nu) :: r2) v)) := Tj.back_inv hI hcs hnxe hlo
                        have Hmub : Hid (Tj.mu k g (Tj.back s ((u, nu) :: r2) v) < Tj.mu k g s) := Tj.mu_back hcs
                        clear hI hM hcs hfv huf hul hus hlo hsl hvs hnxe hmin
                        go_wp2_with fail
                        go_quiet (fail)
                        go_wp2_with fail
                        go_region
                        go_wp2_with fail
                        go_quiet (fail)
                        go_wp2_with fail
                        go_roundg (Tj.mu k g (Tj.back s ((u, nu) :: r2) v))
                        case measure => exact Hmub.out
                        case rel => exact ⟨Tj.back s ((u, nu) :: r2) v, _, vs, rfl, rfl, HIb.out, Hseen.out, ((HMb.out.drewN _).drew).drewN _⟩
                      · --<K
                        have hml2 : s.low v < s.low u := by omega
                        have hmin : min (s.low u) (s.low v) = s.low v := Int.min_eq_right (by omega)
                        have HMb : Hid (Mem w.heap.size k w (Tj.back s ((u, nu) :: r2) v) (.slice (some ⟨gc, 0, none⟩) (r2.length + 1) cap) vs ((wr.setCell ⟨w.heap.size + 7, 0, none⟩ (.slice (some ⟨gc, 0, none⟩) (r2.length + 1) cap)).setCell ⟨w.heap.size + 2, u, none⟩ (.int .i64 (s.low v)))) := by
                          have h1 := (hM.popCalls hcs).setLow u (s.low v)
                          have e : Tj.back s ((u, nu) :: r2) v = { ({ s with calls := (u, nu) :: r2 } : St) with low := upd s.low u (s.low v) } := by
                            show ({ s with calls := (u, nu) :: r2, low := upd s.low u (min (s.low u) (s.low v)) } : St) = _
                            rw [hmin]
                          unfold Hid
                          rw [e]; exact h1
                        have HIb : Hid (Tj.Inv k g NoEx (Tj.back s ((u, nu) :: r2) v)) := Tj.back_inv hI hcs hnxe hlo
                        have Hmub : Hid (Tj.mu k g (Tj.back s ((u, nu) :: r2) v) < Tj.mu k g s) := Tj.mu_back hcs
                        clear hI hM hcs hfv huf hul hus hlo hsl hvs hnxe hmin
                        go_wp2_with fail
                        go_quiet (fail)
                        go_wp2_with fail
                        go_region
                        go_wp2_with fail
                        go_quiet (fail)
                        go_wp2_with fail
                        go_roundg (Tj.mu k g (Tj.back s ((u, nu) :: r2) v))
                        case measure => exact Hmub.out
                        case rel => exact ⟨Tj.back s ((u, nu) :: r2) v, _, vs, rfl, rfl, HIb.out, Hseen.out, ((HMb.out.drewN _).drew).drewN _⟩
          · --<Bb
            have ht : (s.order r != -1) = true := by rw [bne_iff_ne]; exact ho
            have H1 : Hid (Tj.Inv k g NoEx s ∧ s.calls = [] ∧ (∀ x, x < r + 1 → 0 ≤ s.order x)) := ⟨hI, hcn, fun x hx => by
              by_cases e : x = r
              · subst e; have := hI.or_ge x hrk; omega
              · exact hseen x (by omega)⟩
            clear hI hcn hseen ho
            go_wp2
            go_roundg (k - (r + 1))
            case measure => omega
            case rel => exact ⟨r + 1, s, vc, vs, by omega, rfl, by go_num, rfl, H1.out.1, H1.out.2.1, H1.out.2.2, hM⟩
        · --<C
          obtain rfl : r = k := by omega
          have hgood := hI.good hcn hseen
          have hrow := hM.comp
          have hbel := hM.bel
          have H1 : Hid (Below w.heap.size w wr ∧ ∃ cp, RowIs wr (w.heap.size + 4) 3 r (fun i => .int .i64 (cp i)) ∧ Tj.Good r g cp) := ⟨hbel, _, hrow, hgood⟩
          clear hI hcn hseen hM hgood hrow hbel
          go_wp2
          go_ret
          exact ⟨rfl, H1.out⟩
end Go.Proofs.Qxb6004021a
