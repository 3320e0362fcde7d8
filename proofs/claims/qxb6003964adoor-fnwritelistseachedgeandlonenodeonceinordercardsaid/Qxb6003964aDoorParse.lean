/-
  The law's own readers: zzParseID, zzParseLine, zzFind; zzBytes.
-/
import Derived.Test.Qxb6003964aDoorSt
import Derived.Deep.LoopGhost
namespace Go.Proofs.Qxb6003964aDoor
open Go.ChangeShapes Go.WideShapes Go.ChangeAt Go.RowKit
open Go.Lib (byteCells decDigits nDigits)

def preV (u k : Nat) : Nat := u / 10 ^ (nDigits u - k)
def digAt (u k : Nat) : Nat := u / 10 ^ (nDigits u - 1 - k) % 10
theorem preV_zero (u : Nat) : preV u 0 = 0 := Nat.div_eq_of_lt (Lib.lt_pow_nDigits u)
theorem preV_full (u : Nat) : preV u (nDigits u) = u := by unfold preV; rw [Nat.sub_self]; simp
theorem preV_succ {u k : Nat} (h : k < nDigits u) : preV u (k + 1) = preV u k * 10 + digAt u k := by
  unfold preV digAt
  rw [show nDigits u - k = (nDigits u - 1 - k) + 1 by omega, show nDigits u - (k + 1) = nDigits u - 1 - k by omega, Nat.pow_succ, ← Nat.div_div_eq_div_mul]
  omega
theorem preV_le (u k : Nat) : preV u k ≤ u := Nat.div_le_self _ _
theorem digAt_lt (u k : Nat) : digAt u k < 10 := Nat.mod_lt _ (by omega)
theorem pow_le_nDigits : ∀ (u : Nat), 1 < nDigits u → 10 ^ (nDigits u - 1) ≤ u := by
  intro u
  induction u using Nat.strongRecOn with
  | _ u ih =>
    intro h
    by_cases h10 : u < 10
    · rw [Lib.nDigits_small h10] at h; omega
    · rw [Lib.nDigits_big h10] at h ⊢
      by_cases h1 : 1 < nDigits (u / 10)
      · have := ih (u / 10) (by omega) h1
        rw [show nDigits (u / 10) + 1 - 1 = (nDigits (u / 10) - 1) + 1 by omega, Nat.pow_succ]
        omega
      · have := Lib.nDigits_pos (u / 10)
        rw [show nDigits (u / 10) + 1 - 1 = 1 by omega]
        omega
theorem digAt_first {u : Nat} (h : 1 < nDigits u) : 0 < digAt u 0 := by
  have h1 := pow_le_nDigits u h
  have h2 := Lib.lt_pow_nDigits u
  unfold digAt
  rw [show nDigits u - 1 - 0 = nDigits u - 1 by omega]
  rw [show nDigits u = (nDigits u - 1) + 1 by omega, Nat.pow_succ] at h2
  generalize 10 ^ (nDigits u - 1) = p at *
  have hp : 0 < p := by omega
  have a1 : 1 ≤ u / p := (Nat.le_div_iff_mul_le hp).2 (by omega)
  have a2 : u / p < 10 := (Nat.div_lt_iff_lt_mul hp).2 (by omega)
  omega
theorem dec_at {u k : Nat} (h : k < nDigits u) : (byteCells (decDigits u))[k]? = some (.int .u8 (48 + (digAt u k : Int))) := by
  unfold byteCells
  rw [List.getElem?_map, Lib.decDigits_eq, List.getElem?_map, List.getElem?_range h]
  simp only [Option.map_some, Lib.dg]
  have := digAt_lt u k
  unfold digAt at this ⊢
  congr 2
  rw [UInt8.toNat_ofNat']
  omega

variable {w : World}
def PidRel (u D : Nat) (w : World) (gk : Nat) (vv iv : Value) (wr : World) : Prop := ∃ k : Nat, iv = .int .i64 (k : Int) ∧ k ≤ D ∧ gk = D - k ∧ vv = .int .i64 (preV u k : Int) ∧ wr = w
set_option maxRecDepth 100000 in
set_option maxHeartbeats 4000000 in
theorem parseID_any {u : Nat} (hu : u < 9223372036854775808) (g o c : Nat) (hb : BytesAt w ⟨g, o, none⟩ (decDigits u)) :
    Calls Tryd.prog 14 #[.slice (some ⟨g, o, none⟩) (decDigits u).length c] w fun e w' => e = .returned (.tuple #[.int .i64 (u : Int), .bool true]) ∧ w' = w := by
  have hD := dec_len hu
  have hDp := dec_pos u
  rw [Lib.decDigits_length] at hD hDp ⊢
  have hc : ∀ k, k < nDigits u → w.cell? ⟨g, o + k, none⟩ = some (.int .u8 (48 + (digAt u k : Int))) := fun k hk => by
    have := hb k _ (dec_at hk)
    rwa [add_plain] at this
  have h0 : 1 < nDigits u → 0 < digAt u 0 := digAt_first
  have hc0 : w.cell? ⟨g, o, none⟩ = some (.int .u8 (48 + (digAt u 0 : Int))) := hc 0 hDp
  have hl0 := digAt_lt u 0
  have Hc := Lib.hid hc
  clear hb hc
  obtain ⟨D, hDD⟩ : ∃ D, nDigits u = D := ⟨_, rfl⟩
  rw [hDD] at hD hDp h0 ⊢
  obtain ⟨d0, hd0⟩ : ∃ d0, digAt u 0 = d0 := ⟨_, rfl⟩
  rw [hd0] at h0 hc0 hl0
  have e1 : ((D : Int) == 0) = false := by rw [beq_eq_false_iff_ne]; omega
  have e2 : decide ((19 : Int) < (D : Int)) = false := decide_eq_false (by omega)
  have HD := Lib.hid hDD
  have Hd0 := Lib.hid hd0
  clear hDD hd0
  have hdd : (1 : Int) < (D : Int) → ((48 + (d0 : Int)) == 48) = false := fun h => by rw [beq_eq_false_iff_ne]; have := h0 (by omega); omega
  by_cases h1 : (1 : Int) < (D : Int)
  · have hdd := hdd h1
    go_enter Tryd.func14, Tryd.ntmps14
    go_wp2
    go_loopg [4, 5] D (fun gk vv iv wr => PidRel u D w gk vv iv wr)
    case atStart => exact ⟨0, rfl, by omega, by omega, by rw [preV_zero]; rfl, rfl⟩
    case round =>
      obtain ⟨k, rfl, hk, rfl, rfl, rfl⟩ := hrel
      by_cases hkD : k < D
      · have ck := Hc.out k (by rw [HD.out]; exact hkD)
        have hs := preV_succ (u := u) (k := k) (by rw [HD.out]; exact hkD)
        have hle := preV_le u (k + 1)
        have Hs : Hid (preV u (k + 1) = preV u (k + 1)) := rfl
        have hd := digAt_lt u k
        generalize digAt u k = d at *
        obtain ⟨V', hV'⟩ : ∃ V', preV u (k + 1) = V' := ⟨_, rfl⟩
        obtain ⟨V, hV⟩ : ∃ V, preV u k = V := ⟨_, rfl⟩
        rw [hV', hV] at hs
        rw [hV'] at hle
        rw [hV]
        have HV' := Lib.hid hV'
        clear hV' hV Hs
        have hd0 : (0 : Int) ≤ (d : Int) := by omega
        have hd9 : (d : Int) ≤ 9 := by omega
        have hV0 : (0 : Int) ≤ (V : Int) := by omega
        have hV1 : (V : Int) * 10 + (d : Int) ≤ 9223372036854775807 := by omega
        have hV2 : (V : Int) * 10 ≤ 9223372036854775807 := by omega
        have hq : decide ((9223372036854775807 - (d : Int)) / 10 < (V : Int)) = false := decide_eq_false (by omega)
        have hkD' : (k : Int) < (D : Int) := by omega
        go_wp2
        go_roundg (D - (k + 1))
        case measure => omega
        case rel => exact ⟨k + 1, by simp, hkD, rfl, by rw [HV'.out, hs]; simp; omega, rfl⟩
      · have hk' : k = D := by omega
        subst hk'
        go_wp2
        go_ret2
        exact ⟨by rw [← HD.out, preV_full]; rfl, rfl⟩
  · have h1' : decide ((1 : Int) < (D : Int)) = false := decide_eq_false h1
    clear hdd
    go_enter Tryd.func14, Tryd.ntmps14
    go_wp2
    go_loopg [4, 5] D (fun gk vv iv wr => PidRel u D w gk vv iv wr)
    case atStart => exact ⟨0, rfl, by omega, by omega, by rw [preV_zero]; rfl, rfl⟩
    case round =>
      obtain ⟨k, rfl, hk, rfl, rfl, rfl⟩ := hrel
      by_cases hkD : k < D
      · have ck := Hc.out k (by rw [HD.out]; exact hkD)
        have hs := preV_succ (u := u) (k := k) (by rw [HD.out]; exact hkD)
        have hle := preV_le u (k + 1)
        have Hs : Hid (preV u (k + 1) = preV u (k + 1)) := rfl
        have hd := digAt_lt u k
        generalize digAt u k = d at *
        obtain ⟨V', hV'⟩ : ∃ V', preV u (k + 1) = V' := ⟨_, rfl⟩
        obtain ⟨V, hV⟩ : ∃ V, preV u k = V := ⟨_, rfl⟩
        rw [hV', hV] at hs
        rw [hV'] at hle
        rw [hV]
        have HV' := Lib.hid hV'
        clear hV' hV Hs
        have hd0 : (0 : Int) ≤ (d : Int) := by omega
        have hd9 : (d : Int) ≤ 9 := by omega
        have hV0 : (0 : Int) ≤ (V : Int) := by omega
        have hV1 : (V : Int) * 10 + (d : Int) ≤ 9223372036854775807 := by omega
        have hV2 : (V : Int) * 10 ≤ 9223372036854775807 := by omega
        have hq : decide ((9223372036854775807 - (d : Int)) / 10 < (V : Int)) = false := decide_eq_false (by omega)
        have hkD' : (k : Int) < (D : Int) := by omega
        go_wp2
        go_roundg (D - (k + 1))
        case measure => omega
        case rel => exact ⟨k + 1, by simp, hkD, rfl, by rw [HV'.out, hs]; simp; omega, rfl⟩
      · have hk' : k = D := by omega
        subst hk'
        go_wp2
        go_ret2
        exact ⟨by rw [← HD.out, preV_full]; rfl, rfl⟩
end Go.Proofs.Qxb6003964aDoor
