/-
  The law FnComponentsLabelsNeverRiseAlongAnEdge: its walk.
-/
import Derived.Test.Qxb6004021aClone
namespace Go.Proofs.Qxb6004021a
open Go.ChangeShapes Go.WideShapes Go.ChangeAt Go.RowKit
open Tj (upd St)

/-- Behind k rounds of the first loop: which labels have been used; the greatest. -/
structure Used (U n : Nat) (w2 : World) (cN : Nat → Nat) (k : Nat) (tp : Int) (w : World) : Prop where
  bel : Below U w2 w
  row : ∃ ub : Nat → Bool, RowIs w U 4 n (fun i => .bool (ub i)) ∧ ∀ x, x < k → ub (cN x) = true
  top : tp = -1 ∨ ∃ x, x < k ∧ (cN x : Int) = tp
theorem Used.step {U n : Nat} {w2 w : World} {cN : Nat → Nat} {k : Nat} {tp : Int} (h : Used U n w2 cN k tp w) (tp' : Int) (ht : tp' = tp ∨ tp' = cN k) : Used U n w2 cN (k + 1) tp' (w.setCell ⟨U, cN k, none⟩ (.bool true)) := by
  obtain ⟨ub, h1, h2⟩ := h.row
  refine ⟨h.bel.setCell (Nat.le_refl _) _, ⟨upd ub (cN k) true, (h1.set (cN k) (.bool true)).congr (fun j _ => by simp only [upd]; split <;> rfl), fun x hx => ?_⟩, ?_⟩
  · by_cases e : cN x = cN k
    · rw [e, Tj.upd_same]
    · rw [Tj.upd_ne _ _ e]
      exact h2 x (by
        rcases Nat.lt_or_ge x k with h | h
        · exact h
        · obtain rfl : x = k := by omega
          exact absurd rfl e)
  · rcases ht with rfl | rfl
    · rcases h.top with h | ⟨x, hx, he⟩
      · exact .inl h
      · exact .inr ⟨x, by omega, he⟩
    · exact .inr ⟨k, by omega, rfl⟩

set_option maxRecDepth 100000 in
set_option maxHeartbeats 4000000 in
theorem lawA_any {bs os n c : Nat} {a : Option Addr} {A : Nat → Option Addr} {L C RB RO : Nat → Nat} {Z : Nat → List Int} (w : World) (h : InRows w a bs os n c A L C RB RO Z) :
    Calls Try.prog 5 #[.slice a n c] w fun e w' => e = .returned (.bool true) ∧ Below w.heap.size w w' := by
  have H : Hid (InRows w a bs os n c A L C RB RO Z) := h
  clear h
  go_enter Try.func5, Try.ntmps5
  go_wp2_with fail
  refine (zz14_any w H.out).mono ?_
  rintro e w' ⟨⟨b, rfl, hb⟩, rfl⟩
  have Hb : Hid (b = true → n ≤ 1048576 ∧ ∀ r, r < n → L r ≤ 1048576) := hb
  clear hb
  cases b with
  | false =>
    clear H
    go_wp2
    go_ret
    exact ⟨rfl, Below.refl _ _⟩
  | true =>
    obtain ⟨hn1, hL1⟩ := Hb.out rfl
    have HL1 : Hid (∀ r, r < n → L r ≤ 1048576) := hL1
    clear hL1 Hb
    go_wp2_with fail
    refine (fits_any 65536 65536 _ H.out (Nat.le_refl _) (Nat.le_refl _) hn1 HL1.out).mono ?_
    rintro e w' ⟨⟨b, rfl, hb⟩, rfl⟩
    have Hb : Hid (b = true → n ≤ 65536 ∧ (∀ r, r < n → L r ≤ 65536) ∧ ∀ r, r < n → ∀ j, j < L r → 0 ≤ (Z r).getD j 0 ∧ (Z r).getD j 0 < n) := hb
    clear hb
    cases b with
    | false =>
      clear H
      go_wp2
      go_ret
      exact ⟨rfl, Below.refl _ _⟩
    | true =>
      have hn2 := (Hb.out rfl).1
      have HLZ : Hid ((∀ r, r < n → L r ≤ 65536) ∧ ∀ r, r < n → ∀ j, j < L r → 0 ≤ (Z r).getD j 0 ∧ (Z r).getD j 0 < n) := (Hb.out rfl).2
      clear Hb HL1 hn1
      go_wp2_with fail
      refine (clone_any w' H.out hn2 HLZ.out.1 HLZ.out.2).mono ?_
      rintro e w1 ⟨a1, bs1, c1, rfl, hG1, hb1⟩
      have HG1 : Hid (GraphAt w1 a1 bs1 0 n (gOf L Z)) := hG1
      clear hG1 H HLZ
      generalize gOf L Z = g at HG1
      go_wp2_with fail
      refine (comp12_any w1 hn2 HG1.out).mono ?_
      rintro e w2 ⟨bc, rfl, hb2, hbc, cN, hrow, hgood⟩
      have HB2 : Hid (Below w'.heap.size w' w2) := hb1.trans (hb2.mono hb1.size)
      have HG2 : Hid (GraphAt w2 a1 bs1 0 n g) := HG1.out.below hb2
      have HR : Hid (RowIs w2 bc 3 n (fun i => .int .i64 (cN i : Int))) := hrow
      have HGd : Hid (Tj.Good n g (fun x => (cN x : Int))) := hgood
      have hbcl : bc < w2.heap.size := hrow.lt
      clear hb1 hb2 hbc hrow hgood HG1
      have hmk := make_bools n hn2
      go_wp2
      clear hmk
      have HU0 : Hid (Used w2.heap.size n w2 cN 0 (-1) (w2.alloc (.cells (madeCells #[.bool false] n) 4))) := ⟨(Below.refl _ _).alloc (Nat.le_refl _) _, ⟨_, RowIs.made w2 _ 4 n, fun x hx => absurd hx (by omega)⟩, .inl rfl⟩
      go_loopg [6, 34] n (fun gk tp i wr => ∃ (k : Nat) (t : Int), k ≤ n ∧ gk = n - k ∧ i = .int .i64 k ∧ tp = .int .i64 t ∧ -1 ≤ t ∧ t < n ∧ (∀ x, x < k → (cN x : Int) ≤ t) ∧ Used w2.heap.size n w2 cN k t wr)
      case atStart => exact ⟨0, -1, Nat.zero_le _, rfl, rfl, rfl, by omega, by omega, fun x hx => absurd hx (by omega), HU0.out⟩
      case round =>
        clear HU0
        obtain ⟨k, t, hk, rfl, rfl, rfl, ht1, ht2, htop, hU⟩ := hrel
        have Htop : Hid (∀ x, x < k → (cN x : Int) ≤ t) := htop
        have HU : Hid (Used w2.heap.size n w2 cN k t wr) := hU
        clear htop hU
        by_cases hlt : k < n
        · have c0 : wr.cell? ⟨bc, k, none⟩ = some (.int .i64 (cN k : Int)) := (HU.out.bel.cell (p := ⟨bc, k, none⟩) hbcl).trans (HR.out.cell hlt)
          have hck : (cN k : Int) < n := HGd.out.lt k hlt
          have hck2 : cN k < n := by omega
          obtain ⟨ub, hub, _⟩ := HU.out.row
          have u1 := hub.cell hck2
          have u2 := hub.free (cN k)
          clear hub
          by_cases hgt : t < (cN k : Int)
          · have U' := HU.out.step (cN k) (.inr rfl)
            have HU' : Hid (Used w2.heap.size n w2 cN (k + 1) (cN k) (wr.setCell ⟨w2.heap.size, cN k, none⟩ (.bool true))) := U'
            clear U' HU
            go_wp2
            go_roundg (n - (k + 1))
            case measure => omega
            case rel => exact ⟨k + 1, (cN k : Int), by omega, rfl, by go_num, rfl, by omega, by omega, fun x hx => by
              by_cases e : x = k
              · subst e; exact Int.le_refl _
              · have := Htop.out x (by omega); omega, HU'.out⟩
          · have U' := HU.out.step t (.inl rfl)
            have HU' : Hid (Used w2.heap.size n w2 cN (k + 1) t (wr.setCell ⟨w2.heap.size, cN k, none⟩ (.bool true))) := U'
            clear U' HU
            go_wp2
            go_roundg (n - (k + 1))
            case measure => omega
            case rel => exact ⟨k + 1, t, by omega, rfl, by go_num, rfl, by omega, by omega, fun x hx => by
              by_cases e : x = k
              · subst e; omega
              · exact Htop.out x (by omega), HU'.out⟩
        · obtain rfl : k = n := by omega
          clear Htop
          obtain ⟨ub, hub, hux⟩ := HU.out.row
          have Hall : Hid (∀ c : Nat, (c : Int) ≤ t → ub c = true) := fun c hc => by
            rcases HU.out.top with e | ⟨x, hx, e⟩
            · omega
            · obtain ⟨y, hy, e2⟩ := HGd.out.dense x hx c (by show (c : Int) ≤ (cN x : Int); omega)
              have e3 : cN y = c := by have : (cN y : Int) = (c : Int) := e2; omega
              rw [← e3]; exact hux y hy
          have HB3 : Hid (Below w'.heap.size w' wr) := HB2.out.trans (HU.out.bel.mono HB2.out.size)
          have HR3 : Hid (RowIs wr bc 3 k (fun i => .int .i64 (cN i : Int))) := HR.out.keep (HU.out.bel.block bc hbcl)
          have HG3 : Hid (GraphAt wr a1 bs1 0 k g) := HG2.out.below HU.out.bel
          have Hub : Hid (RowIs wr w2.heap.size 4 k (fun i => .bool (ub i))) := hub
          clear HU hub hux HB2 HR HG2
          go_wp2
          go_loopg [9] (t + 1).toNat (fun gk i wx => wx = wr ∧ ∃ q : Nat, (q : Int) ≤ t + 1 ∧ gk = (t + 1 - q).toNat ∧ i = .int .i64 q)
          case atStart => exact ⟨rfl, 0, by omega, by simp, rfl⟩
          case round =>
            obtain ⟨rfl, q, hq, rfl, rfl⟩ := hrel
            by_cases hqt : (q : Int) ≤ t
            · have hqk : q < k := by omega
              have u1 := Hub.out.cell hqk
              rw [Hall.out q hqt] at u1
              go_wp2
              go_roundg (t + 1 - ((q + 1 : Nat) : Int)).toNat
              case measure => omega
              case rel => exact ⟨rfl, q + 1, by omega, rfl, by go_num⟩
            · clear Hub Hall
              go_wp2
              go_loopg [65] k (fun gk i wx => ∃ v : Nat, v ≤ k ∧ gk = k - v ∧ i = .int .i64 v ∧ Below wr.heap.size wr wx)
              case atStart => exact ⟨0, Nat.zero_le _, rfl, rfl, Below.refl _ _⟩
              case round =>
                obtain ⟨v, hv, rfl, rfl, hbx⟩ := hrel
                have HG4 : Hid (GraphAt wr a1 bs1 0 k g) := HG3.out.below hbx
                have HR4 : Hid (RowIs wr bc 3 k (fun i => .int .i64 (cN i : Int))) := HR3.out.keep (hbx.block bc HR3.out.lt)
                have HB4 : Hid (Below w'.heap.size w' wr) := HB3.out.trans (hbx.mono HB3.out.size)
                have HBx : Hid (Below _ _ wr) := hbx
                clear hbx
                by_cases hvk : v < k
                · obtain ⟨ha, hbs⟩ := HG4.out.adr (by omega)
                  obtain ⟨ar, capv, r0, r1⟩ := HG4.out.row v hvk
                  have hlen := HG4.out.len v hvk
                  have R1 : Hid (∀ j, j < (g v).length → ∃ b o, ar = some ⟨b, o, none⟩ ∧ b < wr.heap.size ∧ wr.cell? ⟨b, o + j, none⟩ = some (.int .i32 ((g v).getD j 0 : Nat))) := r1
                  simp only [Nat.zero_add] at r0
                  clear r1
                  subst ha
                  go_wp2
                  go_loopg [72] (g v).length (fun gk i wx => ∃ j : Nat, j ≤ (g v).length ∧ gk = (g v).length - j ∧ i = .int .i64 j ∧ Below wr.heap.size wr wx)
                  case atStart => exact ⟨0, Nat.zero_le _, rfl, rfl, Below.refl _ _⟩
                  case round =>
                    obtain ⟨j, hj, rfl, rfl, hby⟩ := hrel
                    by_cases hjl : j < (g v).length
                    · obtain ⟨b, o, hab, hbl, r2⟩ := R1.out j hjl
                      have r3 := (hby.cell (p := ⟨b, o + j, none⟩) hbl).trans r2
                      have hym : (g v)[j] ∈ g v := List.getElem_mem hjl
                      have hyk : (g v)[j] < k := HG4.out.lt v hvk _ hym
                      have hfall : (cN (g v)[j] : Int) ≤ (cN v : Int) := HGd.out.fall v hvk _ hym
                      have hye : (g v).getD j 0 = (g v)[j] := by simp [hjl]
                      rw [hye] at r3
                      have hbr := HR4.out.lt
                      have k1 := (hby.cell (p := ⟨bc, (g v)[j], none⟩) hbr).trans (HR4.out.cell hyk)
                      have k2 := (hby.cell (p := ⟨bc, v, none⟩) hbr).trans (HR4.out.cell hvk)
                      have HBy : Hid (Below _ _ wr) := hby
                      have hvk' : (v : Int) < (k : Int) := by omega
                      subst hab
                      clear r2 R1 hym hye hby HG3 HG4 HR3 HR4 HB3 HB4 HBx
                      generalize (g v)[j] = y at *
                      have hyk' : (y : Int) < (k : Int) := by omega
                      go_wp2_with fail
                      go_quiet (fail)
                      go_wp2_with fail
                      go_roundg ((g v).length - (j + 1))
                      case measure => omega
                      case rel => exact ⟨j + 1, by omega, rfl, by go_num, below_drewN' HBy.out _⟩
                    · have HBy : Hid (Below _ _ wr) := HBx.out.trans (hby.mono HBx.out.size)
                      clear hby R1 r0
                      go_wp2
                      go_roundg (k - (v + 1))
                      case measure => omega
                      case rel => exact ⟨v + 1, by omega, rfl, by go_num, HBy.out⟩
                · clear HG3 HG4 HR3 HR4 HB3 HBx
                  go_wp2
                  go_ret
                  exact ⟨rfl, HB4.out⟩
end Go.Proofs.Qxb6004021a
