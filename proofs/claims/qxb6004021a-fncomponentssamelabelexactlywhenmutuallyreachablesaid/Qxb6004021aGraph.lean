/-
  A graph that came in ([][]int32): how it lies in memory; its sizes; 'graphFits'.
-/
import Derived.Test.Qxb6004021aComp
import Derived.Deep.Matrix
import Derived.Laws.CopyOwn
import Derived.WalkSpells
namespace Go.Proofs.Qxb6004021a
open Go.ChangeShapes Go.WideShapes Go.ChangeAt Go.RowKit
open Tj (upd St)

structure InRows (w : World) (a : Option Addr) (bs os n c : Nat) (A : Nat → Option Addr) (L C RB RO : Nat → Nat) (Z : Nat → List Int) : Prop where
  adr : 0 < n → a = some ⟨bs, os, none⟩
  nil : a = none → n = 0 ∧ c = 0
  row : ∀ r, r < n → w.cell? ⟨bs, os + r, none⟩ = some (.slice (A r) (L r) (C r))
  rnil : ∀ r, r < n → A r = none → L r = 0 ∧ C r = 0
  cel : ∀ r, r < n → ∀ j, j < L r → A r = some ⟨RB r, RO r, none⟩ ∧ w.cell? ⟨RB r, RO r + j, none⟩ = some (.int .i32 ((Z r).getD j 0))
  rng : ∀ r, r < n → ∀ j, j < L r → -2147483648 ≤ (Z r).getD j 0 ∧ (Z r).getD j 0 ≤ 2147483647
  len : ∀ r, r < n → L r ≤ (Z r).length
  nmax : n ≤ maxLen
  lmax : ∀ r, r < n → L r ≤ maxLen

/-- What the bound on the sizes says where it says yes. -/
def SizePost (n : Nat) (L : Nat → Nat) (e : Ending) : Prop := ∃ b : Bool, e = .returned (.bool b) ∧ (b = true → n ≤ 1048576 ∧ ∀ r, r < n → L r ≤ 1048576)

set_option maxHeartbeats 400000 in
theorem zz14_any {bs os n c : Nat} {a : Option Addr} {A : Nat → Option Addr} {L C RB RO : Nat → Nat} {Z : Nat → List Int} (w : World) (h : InRows w a bs os n c A L C RB RO Z) :
    Calls Try.prog 14 #[.slice a n c] w fun e w' => SizePost n L e ∧ w' = w := by
  have H : Hid (InRows w a bs os n c A L C RB RO Z) := h
  have hmx := h.nmax
  unfold maxLen at hmx
  clear h
  by_cases hbig : 1048576 < n
  · go_enter Try.func14, Try.ntmps14
    go_wp2
    go_ret
    exact ⟨⟨false, rfl, fun e => by cases e⟩, rfl⟩
  · go_enter Try.func14, Try.ntmps14
    go_wp2
    go_loop [3, 4] (fun x i => ∃ (k : Nat) (y : Int), k ≤ n ∧ i = .int .i64 k ∧ 0 ≤ y ∧ y ≤ 1048576 ∧ x = .int .i64 y ∧ ∀ r, r < k → L r ≤ 1048576) (fun _ i => n - (intOf i).toNat)
    case atStart => exact ⟨0, n, Nat.zero_le _, rfl, by omega, by omega, rfl, fun r hr => absurd hr (by omega)⟩
    case round =>
      obtain ⟨k, y, hk, rfl, hy0, hy1, rfl, hl⟩ := hrel
      have HL : Hid (∀ r, r < k → L r ≤ 1048576) := hl
      clear hl
      by_cases hlt : k < n
      · obtain rfl := H.out.adr (by omega)
        have r0 := H.out.row k hlt
        clear H
        generalize hLk : L k = lk at r0
        have HLk : Hid (L k = lk) := hLk
        clear hLk
        go_wp2
        · go_ret
          exact ⟨⟨false, rfl, fun e => by cases e⟩, rfl⟩
        · go_ret
          exact ⟨⟨false, rfl, fun e => by cases e⟩, rfl⟩
        · go_round
          case rel => exact ⟨k + 1, y + lk, by omega, by go_num, by omega, by omega, rfl, fun r hr => by
            by_cases e : r = k
            · subst e; rw [HLk.out]; omega
            · exact HL.out r (by omega)⟩
          case measure => simp [intOf]; omega
      · obtain rfl : k = n := by omega
        clear H
        go_wp2
        go_ret
        exact ⟨⟨true, rfl, fun _ => ⟨by omega, HL.out⟩⟩, rfl⟩

set_option maxHeartbeats 400000 in
theorem zz9_any {bs os n c : Nat} {a : Option Addr} {A : Nat → Option Addr} {L C RB RO : Nat → Nat} {Z : Nat → List Int} (w : World) (h : InRows w a bs os n c A L C RB RO Z) :
    Calls Try.prog 9 #[.slice a n c] w fun e w' => SizePost n L e ∧ w' = w := by
  have H : Hid (InRows w a bs os n c A L C RB RO Z) := h
  have hmx := h.nmax
  unfold maxLen at hmx
  clear h
  by_cases hbig : 1048576 < n
  · go_enter Try.func9, Try.ntmps9
    go_wp2
    go_ret
    exact ⟨⟨false, rfl, fun e => by cases e⟩, rfl⟩
  · go_enter Try.func9, Try.ntmps9
    go_wp2
    go_loop [3, 4] (fun x i => ∃ (k : Nat) (y : Int), k ≤ n ∧ i = .int .i64 k ∧ 0 ≤ y ∧ y ≤ 1048576 ∧ x = .int .i64 y ∧ ∀ r, r < k → L r ≤ 1048576) (fun _ i => n - (intOf i).toNat)
    case atStart => exact ⟨0, n, Nat.zero_le _, rfl, by omega, by omega, rfl, fun r hr => absurd hr (by omega)⟩
    case round =>
      obtain ⟨k, y, hk, rfl, hy0, hy1, rfl, hl⟩ := hrel
      have HL : Hid (∀ r, r < k → L r ≤ 1048576) := hl
      clear hl
      by_cases hlt : k < n
      · obtain rfl := H.out.adr (by omega)
        have r0 := H.out.row k hlt
        clear H
        generalize hLk : L k = lk at r0
        have HLk : Hid (L k = lk) := hLk
        clear hLk
        go_wp2
        · go_ret
          exact ⟨⟨false, rfl, fun e => by cases e⟩, rfl⟩
        · go_ret
          exact ⟨⟨false, rfl, fun e => by cases e⟩, rfl⟩
        · go_round
          case rel => exact ⟨k + 1, y + lk, by omega, by go_num, by omega, by omega, rfl, fun r hr => by
            by_cases e : r = k
            · subst e; rw [HLk.out]; omega
            · exact HL.out r (by omega)⟩
          case measure => simp [intOf]; omega
      · obtain rfl : k = n := by omega
        clear H
        go_wp2
        go_ret
        exact ⟨⟨true, rfl, fun _ => ⟨by omega, HL.out⟩⟩, rfl⟩

/-- What 'graphFits' says where it says yes. -/
def FitsPost (n : Nat) (L : Nat → Nat) (Z : Nat → List Int) (mN mE : Nat) (e : Ending) : Prop :=
  ∃ b : Bool, e = .returned (.bool b) ∧ (b = true → n ≤ mN ∧ (∀ r, r < n → L r ≤ mE) ∧ ∀ r, r < n → ∀ j, j < L r → 0 ≤ (Z r).getD j 0 ∧ (Z r).getD j 0 < n)
theorem fits_no {n : Nat} {L : Nat → Nat} {Z : Nat → List Int} {mN mE : Nat} : FitsPost n L Z mN mE (.returned (.bool false)) := ⟨false, rfl, fun e => by cases e⟩

set_option maxRecDepth 100000 in
set_option maxHeartbeats 1000000 in
theorem fits_any {bs os n c : Nat} {a : Option Addr} {A : Nat → Option Addr} {L C RB RO : Nat → Nat} {Z : Nat → List Int} (mN mE : Nat) (w : World) (h : InRows w a bs os n c A L C RB RO Z) (hN : mN ≤ 65536) (hE : mE ≤ 65536) (hn : n ≤ 1048576) (hL : ∀ r, r < n → L r ≤ 1048576) :
    Calls Try.prog 10 #[.slice a n c, .int .i64 (mN : Int), .int .i64 (mE : Int)] w fun e w' => FitsPost n L Z mN mE e ∧ w' = w := by
  have H : Hid (InRows w a bs os n c A L C RB RO Z) := h
  have HL0 : Hid (∀ r, r < n → L r ≤ 1048576) := hL
  clear h hL
  by_cases hbig : mN < n
  · go_enter Try.func10, Try.ntmps10
    go_wp2
    go_ret
    exact ⟨fits_no, rfl⟩
  · go_enter Try.func10, Try.ntmps10
    go_wp2
    go_loop [7, 21] (fun x i => ∃ (k E : Nat), k ≤ n ∧ i = .int .i64 k ∧ E ≤ mE ∧ x = .int .i64 E ∧ ∀ r, r < k → L r ≤ E) (fun _ i => n - (intOf i).toNat)
    case atStart => exact ⟨0, 0, Nat.zero_le _, rfl, Nat.zero_le _, rfl, fun r hr => absurd hr (by omega)⟩
    case round =>
      obtain ⟨k, E, hk, rfl, hEm, rfl, hl⟩ := hrel
      have HL : Hid (∀ r, r < k → L r ≤ E) := hl
      clear hl
      by_cases hlt : k < n
      · obtain rfl := H.out.adr (by omega)
        have r0 := H.out.row k hlt
        have hl0 := HL0.out k hlt
        clear H HL0
        generalize hLk : L k = lk at r0 hl0
        have HLk : Hid (L k = lk) := hLk
        clear hLk
        go_wp2
        · go_ret
          exact ⟨fits_no, rfl⟩
        · go_round
          case rel => exact ⟨k + 1, E + lk, by omega, by go_num, by omega, by go_num, fun r hr => by
            by_cases e : r = k
            · subst e; rw [HLk.out]; omega
            · have := HL.out r (by omega); omega⟩
          case measure => simp [intOf]; omega
      · obtain rfl : k = n := by omega
        clear HL0
        have HL2 : Hid (∀ r, r < k → L r ≤ mE) := fun r hr => Nat.le_trans (HL.out r hr) hEm
        clear HL
        by_cases hsum : 1048576 < k * 24 + E * 4
        · clear H
          go_wp2
          go_ret
          exact ⟨fits_no, rfl⟩
        · go_wp2
          go_loop [45] (fun i => ∃ (q : Nat), q ≤ k ∧ i = .int .i64 q ∧ ∀ r, r < q → ∀ j, j < L r → 0 ≤ (Z r).getD j 0 ∧ (Z r).getD j 0 < k) (fun i => k - (intOf i).toNat)
          case atStart => exact ⟨0, Nat.zero_le _, rfl, fun r hr => absurd hr (by omega)⟩
          case round =>
            obtain ⟨q, hq, rfl, hz⟩ := hrel
            have HZ : Hid (∀ r, r < q → ∀ j, j < L r → 0 ≤ (Z r).getD j 0 ∧ (Z r).getD j 0 < k) := hz
            clear hz
            by_cases hlt2 : q < k
            · obtain rfl := H.out.adr (by omega)
              have r0 := H.out.row q hlt2
              have hl1 := HL2.out q hlt2
              generalize hAq : A q = aq at r0
              have HAq : Hid (A q = aq) := hAq
              clear hAq
              go_wp2
              go_loop [51] (fun i => ∃ (p : Nat), p ≤ L q ∧ i = .int .i64 p ∧ ∀ j, j < p → 0 ≤ (Z q).getD j 0 ∧ (Z q).getD j 0 < k) (fun i => L q - (intOf i).toNat)
              case atStart => exact ⟨0, Nat.zero_le _, rfl, fun j hj => absurd hj (by omega)⟩
              case round =>
                obtain ⟨p, hp, rfl, hz1⟩ := hrel
                have HZ1 : Hid (∀ j, j < p → 0 ≤ (Z q).getD j 0 ∧ (Z q).getD j 0 < k) := hz1
                clear hz1
                by_cases hlt3 : p < L q
                · obtain ⟨hA, hcel⟩ := H.out.cel q hlt2 p hlt3
                  obtain ⟨g1, g2⟩ := H.out.rng q hlt2 p hlt3
                  have hA2 : aq = some ⟨RB q, RO q, none⟩ := HAq.out.symm.trans hA
                  clear H hA HAq
                  subst hA2
                  generalize hz : (Z q).getD p 0 = z at hcel g1 g2
                  have HZz : Hid ((Z q).getD p 0 = z) := hz
                  clear hz
                  by_cases hz0 : z < 0
                  · go_wp2
                    go_ret
                    exact ⟨fits_no, rfl⟩
                  · by_cases hz1 : (k : Int) ≤ z
                    · go_wp2
                      go_ret
                      exact ⟨fits_no, rfl⟩
                    · go_wp2
                      go_round
                      case rel => exact ⟨p + 1, by omega, by go_num, fun j hj => by
                        by_cases e : j = p
                        · subst e; rw [HZz.out]; omega
                        · exact HZ1.out j (by omega)⟩
                      case measure => simp [intOf]; omega
                · obtain rfl : p = L q := by omega
                  clear H
                  go_wp2
                  go_round
                  case rel => exact ⟨q + 1, by omega, by go_num, fun r hr => by
                    by_cases e : r = q
                    · subst e; exact HZ1.out
                    · exact HZ.out r (by omega)⟩
                  case measure => simp [intOf]; omega
            · obtain rfl : q = k := by omega
              clear H
              go_wp2
              go_ret
              exact ⟨⟨true, rfl, fun _ => ⟨by omega, HL2.out, HZ.out⟩⟩, rfl⟩
end Go.Proofs.Qxb6004021a
