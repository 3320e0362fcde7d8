/-
  zzParseLine, zzFind, zzBytes.
-/
import Derived.Test.Qxb6003964aDoorParse
import Derived.OwnWalk
namespace Go.Proofs.Qxb6003964aDoor
open Go.ChangeShapes Go.WideShapes Go.ChangeAt Go.RowKit
open Go.Lib (byteCells decDigits nDigits)
variable {w : World}

theorem dec_cell {g o u k : Nat} (hb : BytesAt w ⟨g, o, none⟩ (decDigits u)) (hk : k < (decDigits u).length) : ∃ z : Int, w.cell? ⟨g, o + k, none⟩ = some (.int .u8 z) ∧ (z == 32) = false := by
  rw [Lib.decDigits_length] at hk
  have := hb k _ (dec_at hk)
  rw [add_plain] at this
  exact ⟨_, this, by rw [beq_eq_false_iff_ne]; omega⟩

def PlRel (p D : Nat) (w : World) (gk : Nat) (sv iv : Value) (wr : World) : Prop := ∃ k : Nat, iv = .int .i64 (k : Int) ∧ k ≤ D ∧ gk = D - k ∧ sv = (if p < k then .int .i64 (p : Int) else .int .i64 (-1)) ∧ wr = w

set_option maxRecDepth 100000 in
set_option maxHeartbeats 4000000 in
theorem parseLine_one {u : Nat} (hu : u < 9223372036854775808) (g o c : Nat) (hb : BytesAt w ⟨g, o, none⟩ (decDigits u)) :
    Calls Tryd.prog 7 #[.slice (some ⟨g, o, none⟩) (decDigits u).length c] w fun e w' => e = .returned (.tuple #[.int .i64 (u : Int), .int .i64 (-1), .bool true]) ∧ w' = w := by
  have hD := dec_len hu
  have hDp := dec_pos u
  have Hb := Lib.hid hb
  have Hid1 := Lib.hid (parseID_any hu g o c hb)
  clear hb
  obtain ⟨D, hDD⟩ : ∃ D, (decDigits u).length = D := ⟨_, rfl⟩
  rw [hDD] at hD hDp Hid1 ⊢
  have HD := Lib.hid hDD
  clear hDD
  go_enter Tryd.func7, Tryd.ntmps7
  go_wp2
  go_loopg [5, 6] D (fun gk sv iv wr => PlRel D D w gk sv iv wr)
  case atStart => exact ⟨0, rfl, by omega, by omega, by rw [if_neg (by omega)], rfl⟩
  case round =>
    obtain ⟨k, rfl, hk, rfl, rfl, rfl⟩ := hrel
    rw [if_neg (by omega)]
    by_cases hkD : k < D
    · obtain ⟨z, ck, hz⟩ := dec_cell Hb.out (k := k) (by rw [HD.out]; exact hkD)
      have hkD' : (k : Int) < (D : Int) := by omega
      go_wp2
      go_roundg (D - (k + 1))
      case measure => omega
      case rel => exact ⟨k + 1, by simp, hkD, rfl, by rw [if_neg (by omega)], rfl⟩
    · have hk' : k = D := by omega
      subst hk'
      go_wp2_with (go_at_call 14; refine Hid1.out.mono ?_; rintro e w1 ⟨rfl, rfl⟩)
      go_ret3
      exact ⟨rfl, rfl⟩

set_option maxRecDepth 100000 in
set_option maxHeartbeats 4000000 in
theorem parseLine_two {u v : Nat} (hu : u < 9223372036854775808) (hv : v < 9223372036854775808) (g o c : Nat) (hb : BytesAt w ⟨g, o, none⟩ (decDigits u ++ 32 :: decDigits v)) (hcl : (decDigits u ++ 32 :: decDigits v).length ≤ c) :
    Calls Tryd.prog 7 #[.slice (some ⟨g, o, none⟩) (decDigits u ++ 32 :: decDigits v).length c] w fun e w' => e = .returned (.tuple #[.int .i64 (u : Int), .int .i64 (v : Int), .bool true]) ∧ w' = w := by
  have hD := dec_len hu
  have hDp := dec_pos u
  have hE := dec_len hv
  have hEp := dec_pos v
  have hb1 : BytesAt w ⟨g, o, none⟩ (decDigits u) := fun j x hj => by
    apply hb
    rw [byteCells_append, List.getElem?_append_left (List.getElem?_eq_some_iff.1 hj).1]
    exact hj
  have hb2 : w.cell? ⟨g, o + (decDigits u).length, none⟩ = some (.int .u8 32) := by
    have := hb (decDigits u).length (.int .u8 32) (by rw [byteCells_append, List.getElem?_append_right (by rw [byteCells_len]; exact Nat.le_refl _), byteCells_len, Nat.sub_self]; rfl)
    rwa [add_plain] at this
  have hb3 : BytesAt w ⟨g, o + ((decDigits u).length + 1), none⟩ (decDigits v) := fun j x hj => by
    have := hb ((decDigits u).length + 1 + j) x (by
      rw [byteCells_append, List.getElem?_append_right (by rw [byteCells_len]; omega), byteCells_len, show (decDigits u).length + 1 + j - (decDigits u).length = j + 1 by omega]
      exact hj)
    rw [add_plain] at this ⊢
    rwa [Nat.add_assoc]
  have hlen : (decDigits u ++ 32 :: decDigits v).length = (decDigits u).length + 1 + (decDigits v).length := by simp; omega
  rw [hlen] at hcl ⊢
  have Hb1 := Lib.hid hb1
  have Hb3 := Lib.hid hb3
  have Hid1 := Lib.hid (parseID_any hu g o c hb1)
  have Hid2 := Lib.hid (parseID_any hv g (o + ((decDigits u).length + 1)) (c - ((decDigits u).length + 1)) hb3)
  clear hb hb1 hb3 hlen
  obtain ⟨D, hDD⟩ : ∃ D, (decDigits u).length = D := ⟨_, rfl⟩
  obtain ⟨E, hEE⟩ : ∃ E, (decDigits v).length = E := ⟨_, rfl⟩
  rw [hDD] at hD hDp hb2 Hid1 Hb3 hcl ⊢
  rw [hDD, hEE] at Hid2
  rw [hEE] at hE hEp hcl ⊢
  have HD := Lib.hid hDD
  have HE := Lib.hid hEE
  clear hDD hEE
  go_enter Tryd.func7, Tryd.ntmps7
  go_wp2
  go_loopg [5, 6] (D + 1 + E) (fun gk sv iv wr => PlRel D (D + 1 + E) w gk sv iv wr)
  case atStart => exact ⟨0, rfl, by omega, by omega, by rw [if_neg (by omega)], rfl⟩
  case round =>
    obtain ⟨k, rfl, hk, rfl, rfl, rfl⟩ := hrel
    by_cases hkD : k < D + 1 + E
    · have hkD' : (k : Int) < (D : Int) + 1 + (E : Int) := by omega
      rcases Nat.lt_trichotomy k D with hkd | hkd | hkd
      · rw [if_neg (by omega)]
        obtain ⟨z, ck, hz⟩ := dec_cell Hb1.out (k := k) (by rw [HD.out]; exact hkd)
        go_wp2
        go_roundg (D + 1 + E - (k + 1))
        case measure => omega
        case rel => exact ⟨k + 1, by simp, hkD, rfl, by rw [if_neg (by omega)], rfl⟩
      · rw [if_neg (by omega)]
        subst hkd
        go_wp2
        go_roundg (k + 1 + E - (k + 1))
        case measure => omega
        case rel => exact ⟨k + 1, by simp, hkD, rfl, by rw [if_pos (by omega)], rfl⟩
      · rw [if_pos hkd]
        obtain ⟨z, ck, hz⟩ := dec_cell Hb3.out (k := k - (D + 1)) (by rw [HE.out]; omega)
        rw [show o + (D + 1) + (k - (D + 1)) = o + k by omega] at ck
        go_wp2
        go_roundg (D + 1 + E - (k + 1))
        case measure => omega
        case rel => exact ⟨k + 1, by simp, hkD, rfl, by rw [if_pos (by omega)], rfl⟩
    · have hk' : k = D + 1 + E := by omega
      have hkD' : ¬ (k : Int) < (D : Int) + 1 + (E : Int) := by omega
      rw [if_pos (by omega)]
      have hc1 : ¬ c - (D + 1) = 0 := by omega
      go_wp2_with (first | (go_at_call 14; refine Hid1.out.mono ?_; rintro e w1 ⟨rfl, rfl⟩; clear Hid1) | (go_at_call 14; refine Hid2.out.mono ?_; rintro e w1 ⟨rfl, rfl⟩))
      go_ret3
      exact ⟨rfl, rfl⟩

def FdRel (i n : Nat) (w : World) (gk : Nat) (lv hv : Value) (wr : World) : Prop := ∃ lo hi : Nat, lv = .int .i64 (lo : Int) ∧ hv = .int .i64 (hi : Int) ∧ lo ≤ i ∧ i ≤ hi ∧ hi ≤ n ∧ gk = hi - lo ∧ wr = w

set_option maxRecDepth 100000 in
set_option maxHeartbeats 4000000 in
/-- zzFind finds a node at its place. -/
theorem find_any {n c g i : Nat} {I : Nat → Nat} (hn : n ≤ 256) (hI : ∀ k, k < n → w.cell? ⟨g, k, none⟩ = some (.int .i64 (I k : Int))) (hup : ∀ a b, a < b → b < n → I a < I b) (hi : i < n) :
    Calls Tryd.prog 8 #[.slice (some ⟨g, 0, none⟩) n c, .int .i64 (I i : Int)] w fun e w' => e = .returned (.int .i64 (i : Int)) ∧ w' = w := by
  have Hup := Lib.hid hup
  have HI := Lib.hid hI
  have ci := hI i hi
  clear hup hI
  go_enter Tryd.func8, Tryd.ntmps8
  go_wp2
  go_loopg [5, 6] n (fun gk lv hv wr => FdRel i n w gk lv hv wr)
  case atStart => exact ⟨0, n, rfl, rfl, by omega, by omega, by omega, by omega, rfl⟩
  case round =>
    obtain ⟨lo, h, rfl, rfl, h1, h2, h3, rfl, rfl⟩ := hrel
    by_cases hlt : lo < h
    · obtain ⟨mid, hm⟩ : ∃ mid, lo + (h - lo) / 2 = mid := ⟨_, rfl⟩
      have hmi : (lo : Int) + ((h : Int) - (lo : Int)) / 2 = (mid : Int) := by omega
      have hmn : mid < n := by omega
      have cm := HI.out mid hmn
      have hlt' : (lo : Int) < (h : Int) := by omega
      have hm0 : (lo : Int) ≤ (mid : Int) := by omega
      have hm1 : (mid : Int) < (h : Int) := by omega
      have hhn : (h : Int) ≤ 256 := by omega
      by_cases hc : (I mid : Int) < (I i : Int)
      · have hmi' : mid < i := by
          apply Classical.byContradiction
          intro hx
          rcases Nat.lt_or_eq_of_le (Nat.le_of_not_lt hx) with h' | h'
          · have := Hup.out i mid h' hmn; omega
          · rw [h'] at hc; omega
        go_wp2
        go_roundg (h - (mid + 1))
        case measure => omega
        case rel => exact ⟨mid + 1, h, by simp, rfl, by omega, h2, h3, rfl, rfl⟩
      · have hmi' : i ≤ mid := by
          apply Classical.byContradiction
          intro hx
          have := Hup.out mid i (by omega) hi
          omega
        go_wp2
        go_roundg (mid - lo)
        case measure => omega
        case rel => exact ⟨lo, mid, rfl, by simp, h1, hmi', by omega, rfl, rfl⟩
    · have hl : lo = i := by omega
      have hh : h = i := by omega
      subst hl hh
      go_wp2
      go_ret
      exact ⟨rfl, rfl⟩

def SayBool (w : World) (e : Ending) (w' : World) : Prop := (e = .returned (.bool true) ∨ e = .returned (.bool false)) ∧ w' = w

set_option maxHeartbeats 1000000 in
/-- zzBytes: a bool is answered. -/
theorem bytes_any (a b : Option Addr) (la ca lb cb : Nat) (f : Bool) : Calls Tryd.prog 4 #[.slice a la ca, .slice b lb cb, .bool f] w fun e w' => SayBool w e w' := by
  by_cases h1 : (1048576 : Int) < (la : Int)
  · go_enter Tryd.func4, Tryd.ntmps4
    go_wp2
    go_ret
    exact ⟨.inr rfl, rfl⟩
  · by_cases h2 : (1048576 : Int) < (lb : Int)
    · go_enter Tryd.func4, Tryd.ntmps4
      go_wp2
      go_ret
      exact ⟨.inr rfl, rfl⟩
    · have h1' : (la : Int) ≤ 1048576 := by omega
      have h2' : (lb : Int) ≤ 1048576 := by omega
      by_cases h3 : (1048576 : Int) < (la : Int) + (lb : Int)
      · go_enter Tryd.func4, Tryd.ntmps4
        go_wp2
        go_ret
        exact ⟨.inr rfl, rfl⟩
      · go_enter Tryd.func4, Tryd.ntmps4
        go_wp2
        go_ret
        exact ⟨.inl rfl, rfl⟩
end Go.Proofs.Qxb6003964aDoor
