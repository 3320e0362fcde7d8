/-
  The law FnComponentsSameLabelExactlyWhenMutuallyReachable: its walk.
-/
import Derived.Test.Qxb6004021aReach
namespace Go.Proofs.Qxb6004021a
open Go.ChangeShapes Go.WideShapes Go.ChangeAt Go.RowKit
open Tj (upd St)

set_option maxRecDepth 100000 in
set_option maxHeartbeats 4000000 in
theorem lawB_any {bs os n c : Nat} {a : Option Addr} {A : Nat → Option Addr} {L C RB RO : Nat → Nat} {Z : Nat → List Int} (w : World) (h : InRows w a bs os n c A L C RB RO Z) :
    Calls Try.prog 4 #[.slice a n c] w fun e w' => e = .returned (.bool true) ∧ Below w.heap.size w w' := by
  have H : Hid (InRows w a bs os n c A L C RB RO Z) := h
  clear h
  go_enter Try.func4, Try.ntmps4
  go_wp2_with fail
  refine (zz9_any w H.out).mono ?_
  rintro e w' ⟨⟨b, rfl, hb⟩, rfl⟩
  have Hb : Hid (b = true → n ≤ 1048576 ∧ ∀ r, r < n → L r ≤ 1048576) := hb
  clear hb
  cases b with
  | false =>
    clear H
    go_wp2
    go_ret
    exact ⟨rfl, Below.refl _ _⟩
  | true =>
    obtain ⟨hn1, hL1⟩ := Hb.out rfl
    have HL1 : Hid (∀ r, r < n → L r ≤ 1048576) := hL1
    clear hL1 Hb
    go_wp2_with fail
    refine (fits_any 256 4096 _ H.out (by omega) (by omega) hn1 HL1.out).mono ?_
    rintro e w' ⟨⟨b, rfl, hb⟩, rfl⟩
    have Hb : Hid (b = true → n ≤ 256 ∧ (∀ r, r < n → L r ≤ 4096) ∧ ∀ r, r < n → ∀ j, j < L r → 0 ≤ (Z r).getD j 0 ∧ (Z r).getD j 0 < n) := hb
    clear hb
    cases b with
    | false =>
      clear H
      go_wp2
      go_ret
      exact ⟨rfl, Below.refl _ _⟩
    | true =>
      have hn2 := (Hb.out rfl).1
      have HLZ : Hid ((∀ r, r < n → L r ≤ 65536) ∧ ∀ r, r < n → ∀ j, j < L r → 0 ≤ (Z r).getD j 0 ∧ (Z r).getD j 0 < n) := ⟨fun r hr => by have := (Hb.out rfl).2.1 r hr; omega, (Hb.out rfl).2.2⟩
      clear Hb HL1 hn1
      go_wp2_with fail
      refine (clone_any w' H.out (by omega) HLZ.out.1 HLZ.out.2).mono ?_
      rintro e w1 ⟨a1, bs1, c1, rfl, hG1, hb1⟩
      have HG1 : Hid (GraphAt w1 a1 bs1 0 n (gOf L Z)) := hG1
      clear hG1 H HLZ
      generalize gOf L Z = g at HG1
      go_wp2_with fail
      refine (comp12_any w1 (by omega) HG1.out).mono ?_
      rintro e w2 ⟨bc, rfl, hb2, hbc, cN, hrow, hgood⟩
      have HB2 : Hid (Below w'.heap.size w' w2) := hb1.trans (hb2.mono hb1.size)
      have HG2 : Hid (GraphAt w2 a1 bs1 0 n g) := HG1.out.below hb2
      have HR : Hid (RowIs w2 bc 3 n (fun i => .int .i64 (cN i : Int))) := hrow
      have HGd : Hid (Tj.Good n g (fun x => (cN x : Int))) := hgood
      have hbcl : bc < w2.heap.size := hrow.lt
      clear hb1 hb2 hbc hrow hgood HG1
      go_wp2_with fail
      refine (reach_any w2 hn2 HG2.out).mono ?_
      rintro e w3 ⟨br, rfl, hb3, R, hRow, hRe⟩
      have HB3 : Hid (Below w'.heap.size w' w3) := HB2.out.trans (hb3.mono HB2.out.size)
      have HR3 : Hid (RowIs w3 bc 3 n (fun i => .int .i64 (cN i : Int))) := HR.out.keep (hb3.block bc hbcl)
      have HQ3 : Hid (RowIs w3 br 4 (n * n) (fun i => .bool (R i))) := hRow
      have Heq : Hid (∀ u, u < n → ∀ v, v < n → ((cN u : Int) == (cN v : Int)) = (R (u * n + v) && R (v * n + u))) := fun u hu v hv => by
        have h1 := HGd.out.iff HG2.out.lt hu hv
        have h2 := hRe u hu v hv
        have h3 := hRe v hv u hu
        rw [Bool.eq_iff_iff, beq_iff_eq, Bool.and_eq_true, h2, h3]
        exact h1
      clear HB2 HR HG2 hb3 hRow hRe HGd hbcl
      have hnn : n * n ≤ 65536 := Nat.le_trans (Nat.mul_le_mul hn2 hn2) (by decide)
      have hnn' : (n : Int) * (n : Int) ≤ 65536 := by have := Int.ofNat_le.2 hnn; rw [Int.natCast_mul] at this; exact this
      go_wp2
      go_loopg [6] n (fun gk i wx => ∃ u : Nat, u ≤ n ∧ gk = n - u ∧ i = .int .i64 u ∧ Below w3.heap.size w3 wx)
      case atStart => exact ⟨0, Nat.zero_le _, rfl, rfl, Below.refl _ _⟩
      case round =>
        obtain ⟨u, hu, rfl, rfl, hbx⟩ := hrel
        have HBx : Hid (Below w3.heap.size w3 wr) := hbx
        clear hbx
        by_cases hun : u < n
        · have hun1 : u * n + n ≤ n * n := by have := Nat.mul_le_mul_right n (Nat.succ_le_of_lt hun); rwa [Nat.succ_mul] at this
          have hun2 : (u : Int) * (n : Int) + (n : Int) ≤ (n : Int) * (n : Int) := by have := Int.ofNat_le.2 hun1; rw [Int.natCast_add, Int.natCast_mul, Int.natCast_mul] at this; exact this
          have hun0 : 0 ≤ (u : Int) * (n : Int) := Int.mul_nonneg (by omega) (by omega)
          have hun' : (u : Int) < (n : Int) := by omega
          go_wp2
          go_loopg [7] n (fun gk i wx => ∃ v : Nat, v ≤ n ∧ gk = n - v ∧ i = .int .i64 v ∧ Below w3.heap.size w3 wx)
          case atStart => exact ⟨0, Nat.zero_le _, rfl, rfl, HBx.out⟩
          case round =>
            obtain ⟨v, hv, rfl, rfl, hby⟩ := hrel
            clear HBx
            have HBy : Hid (Below w3.heap.size w3 wr) := hby
            by_cases hvn : v < n
            · have hvn1 : v * n + n ≤ n * n := by have := Nat.mul_le_mul_right n (Nat.succ_le_of_lt hvn); rwa [Nat.succ_mul] at this
              have hvn2 : (v : Int) * (n : Int) + (n : Int) ≤ (n : Int) * (n : Int) := by have := Int.ofNat_le.2 hvn1; rw [Int.natCast_add, Int.natCast_mul, Int.natCast_mul] at this; exact this
              have hvn0 : 0 ≤ (v : Int) * (n : Int) := Int.mul_nonneg (by omega) (by omega)
              have hvn' : (v : Int) < (n : Int) := by omega
              have k1 := (hby.cell (p := ⟨bc, u, none⟩) HR3.out.lt).trans (HR3.out.cell hun)
              have k2 := (hby.cell (p := ⟨bc, v, none⟩) HR3.out.lt).trans (HR3.out.cell hvn)
              have r1 := (hby.cell (p := ⟨br, u * n + v, none⟩) HQ3.out.lt).trans (HQ3.out.cell (show u * n + v < n * n by omega))
              have r2 := (hby.cell (p := ⟨br, v * n + u, none⟩) HQ3.out.lt).trans (HQ3.out.cell (show v * n + u < n * n by omega))
              have he := Heq.out u hun v hvn
              clear hby Heq HR3 HQ3 HB3
              cases f1 : R (u * n + v) with
              | false =>
                rw [f1] at r1 he
                simp only [Bool.false_and] at he
                clear f1
                go_wp2_with fail
                go_quiet (fail)
                go_wp2_with fail
                go_roundg (n - (v + 1))
                case measure => omega
                case rel => exact ⟨v + 1, by omega, rfl, by go_num, below_drewN' HBy.out _⟩
              | true =>
                rw [f1] at r1 he
                simp only [Bool.true_and] at he
                cases f2 : R (v * n + u) with
                | false =>
                  rw [f2] at r2 he
                  clear f1 f2
                  go_wp2_with fail
                  go_quiet (fail)
                  go_wp2_with fail
                  go_roundg (n - (v + 1))
                  case measure => omega
                  case rel => exact ⟨v + 1, by omega, rfl, by go_num, below_drewN' HBy.out _⟩
                | true =>
                  rw [f2] at r2 he
                  clear f1 f2
                  go_wp2_with fail
                  go_quiet (fail)
                  go_wp2_with fail
                  go_roundg (n - (v + 1))
                  case measure => omega
                  case rel => exact ⟨v + 1, by omega, rfl, by go_num, below_drewN' HBy.out _⟩
            · clear hby
              go_wp2
              go_roundg (n - (u + 1))
              case measure => omega
              case rel => exact ⟨u + 1, by omega, rfl, by go_num, HBy.out⟩
        · have HBz : Hid (Below w'.heap.size w' wr) := HB3.out.trans (HBx.out.mono HB3.out.size)
          clear HB3 HBx HR3 HQ3 Heq
          go_wp2
          go_ret
          exact ⟨rfl, HBz.out⟩
end Go.Proofs.Qxb6004021a
