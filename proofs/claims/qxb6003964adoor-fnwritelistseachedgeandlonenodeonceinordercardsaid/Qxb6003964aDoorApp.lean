/-
  strconv.AppendInt at base 10, for numbers that are not negative, onto a row of the call's own: what comes back, and the exact frame.
  The inner functions (small, numDigits, formatBase10) by the shelf's contracts.
-/
import Derived.Test.Qxb6003964aDoorBase
import Derived.Test.Qxb6003964aDoorShelf
import Derived.Lib.Walk
import Derived.Lib.ItoaWalk
import Derived.Lib.ItoaMem
import Derived.Lib.AppendIntMem
import Derived.Lib.BufferKept
import Derived.Lib.OwnKind
import Derived.Lib.Slices
import Derived.Lib.Hide
import Derived.CellFam
namespace Go.Proofs.Qxb6003964aDoor
open Go.ChangeShapes Go.WideShapes Go.ChangeAt Go.RowKit Go.Shelf Go.Sort Go.Lib

theorem Tryd.info5 : (Tryd.prog.info? 5).map (fun i => (i.zero, i.size, i.bytes)) = some (some (.int .u8 0), 1, 1) := by kernel_rfl

theorem own_shape {w : World} {base : Nat} {e : TypeId} {size : Nat} {v : Value} {m : Nat} {xs : List Value} (h : w.ownsRow base e size v m xs) : ∃ a c, v = .slice a m c := by
  obtain ⟨_, ⟨rfl, rfl⟩ | ⟨g, cap, cur, rfl, _⟩⟩ := h
  · exact ⟨none, 0, rfl⟩
  · exact ⟨_, _, rfl⟩

set_option maxHeartbeats 6400000 in
set_option maxRecDepth 100000 in
theorem appU_small (B n u : Nat) (hu : u < 100) (sv : Value) (xs : List Value) (w : World) (hown : w.ownsRow B 5 1 sv n xs) (hBw : B ≤ w.heap.size) (hlim : n ≤ 65536) :
    Calls Tryd.prog 19 #[sv, .int .u64 u, .int .i64 10] w fun e w' => ∃ v', e = .returned v' ∧ w'.ownsRow B 5 1 v' (n + (Lib.decDigits u).length) (xs ++ Lib.byteCells (Lib.decDigits u)) ∧ w.grownBy w' sv.ownBlock ∧ Near w sv v' := by
  obtain ⟨i0, hi, hz0, hz1, hz2⟩ := info_parts Tryd.info5
  have hlen : (Lib.decDigits u).length ≤ 20 := by
    rw [Lib.decDigits_length]
    by_cases h10 : u < 10
    · rw [Lib.nDigits_small h10]; omega
    · rw [Lib.nDigits_big h10, Lib.nDigits_small (show u / 10 < 10 by omega)]; omega
  have hlen0 : 0 < (Lib.decDigits u).length := by
    rw [Lib.decDigits_length]
    by_cases h10 : u < 10
    · rw [Lib.nDigits_small h10]; omega
    · rw [Lib.nDigits_big h10]; omega
  have hsz : (⟨(Lib.decDigits u).toArray⟩ : ByteArray).size = (Lib.decDigits u).length := by simp [ByteArray.size]
  go_enter Tryd.func19, Tryd.ntmps19
  go_wp2_with (first
    | (go_at_call 20; refine (Tryd.internal_strconv_small u hu _).mono ?_; rintro e w' ⟨rfl, rfl⟩)
    | (at_builtin; refine wpList_append_str_two _ rfl _ _ 23 9 rfl B 5 i0 Tryd.underlying23 Tryd.underlying9 hi hz0 hz1 hz2 _ _ _ rfl hown ⟨(Lib.decDigits u).toArray⟩ rfl ?s1 ?s2 ?s3 hBw ?_))
  case s1 => rw [hsz]; exact hlen0
  case s2 => rw [hsz]; unfold maxLen; omega
  case s3 => rw [hsz]; omega
  intro v' w1 hown' hgrow hnear
  go_wp2
  go_ret
  refine ⟨v', rfl, ?_, hgrow, hnear⟩
  first | exact hown' | (rw [hsz] at hown'; exact hown')

set_option maxHeartbeats 12800000 in
set_option maxRecDepth 100000 in
theorem appU_big (B n u : Nat) (hu : 100 ≤ u) (hu64 : u < 18446744073709551616) (sv : Value) (xs : List Value) (w : World) (hown : w.ownsRow B 5 1 sv n xs) (hBw : B ≤ w.heap.size) (hlim : n ≤ 65536)
    (htab : Lib.TabIs Tryd.prog w Tryd.powName .u64 Lib.pow10Tab) :
    Calls Tryd.prog 19 #[sv, .int .u64 u, .int .i64 10] w fun e w' => ∃ v', e = .returned v' ∧ w'.ownsRow B 5 1 v' (n + (Lib.decDigits u).length) (xs ++ Lib.byteCells (Lib.decDigits u)) ∧ w.grownBy w' sv.ownBlock ∧ Near w sv v' := by
  obtain ⟨i0, hi, hz0, hz1, hz2⟩ := info_parts Tryd.info5
  have hu1 : 1 ≤ u := by omega
  have hnd20 : Lib.nDigits u ≤ 20 := by have := Lib.numDigits_eq u hu1 hu64; split at this <;> omega
  have hal : Tryd.prog.arrayLen 60 = 24 := by kernel_rfl
  have hel : Tryd.prog.elem 60 = 5 := by kernel_rfl
  have hsl : ∀ W, (Instr.sliceAt 60 (.pointer (some ⟨w.heap.size, 0, none⟩)) none (some (.int .i64 (Lib.nDigits u : Int))) none).run Tryd.prog W = .ok (.slice (some ⟨w.heap.size, 0, none⟩) (Lib.nDigits u) 24) W := fun W => by
    rw [run_sliceAt_array_h W 60 ⟨w.heap.size, 0, none⟩ (by kernel_rfl) .i64 (Lib.nDigits u : Int) (by omega) (by rw [hal]; omega), hal, hel]
    simp [sizeOf, typeInfo, hi, hz1, slicedAt, Addr.add]
  have hH0 := Lib.holds_zero0 w 60 (Lib.nDigits u) (by omega)
  have hfmt := Tryd.internal_strconv_formatBase10 w.heap.size 0 24 u (Array.replicate (Lib.nDigits u) 0) (w.alloc (.cells Lib.zeros24 60)) hH0 (by rw [Array.size_replicate]; exact Lib.lt_pow_nDigits u) hu64 (by rw [Array.size_replicate]; omega)
  rw [Array.size_replicate] at hfmt
  have HH0 := Lib.hid hH0
  have iu : (100 : Int) ≤ (u : Int) := by omega
  clear hH0 hal hel
  go_enter Tryd.func19, Tryd.ntmps19
  go_wp2_with (first
    | (go_at_call 21; refine (Tryd.internal_strconv_numDigits u hu1 hu64 _ (Lib.tabIs_alloc htab _)).mono ?_; rintro e w' ⟨rfl, rfl⟩))
  refine hfmt.mono ?_
  rintro e w' ⟨rfl, k, v', dk, rfl, hF⟩
  have hcells : ∀ j u', (Lib.byteCells (Lib.decDigits u))[j]? = some u' → ((putRow (fun (b : UInt8) => Value.int .u8 (b.toNat : Int)) (w.alloc (.cells Lib.zeros24 60)) w.heap.size 0 dk).drewN k).cell? ((⟨w.heap.size, 0, none⟩ : Addr).add j) = some u' := by
    intro j u' hj
    have hjl : j < (Lib.decDigits u).length := by
      have h5 := (List.getElem?_eq_some_iff.1 hj).1
      rwa [Lib.byteCells_length] at h5
    have e5 : (Lib.byteCells (Lib.decDigits u))[j]? = some (Value.int .u8 ((Lib.decDigits u)[j].toNat : Int)) := by simp [Lib.byteCells, hjl]
    rw [e5] at hj
    cases hj
    rw [Lib.row_is_numeral hF j hjl, Lib.add_plain, World.cell?_drewN]
    exact cell?_putRow (fun (b : UInt8) => Value.int .u8 (b.toNat : Int)) _ w.heap.size 0 _ dk HH0.out (by rw [hF.size, Array.size_replicate]) j (by rw [hF.size]; rw [Lib.decDigits_length] at hjl; exact hjl)
  obtain ⟨os, eo⟩ := Lib.fin_at w (.cells Lib.zeros24 60) dk k 0
  have hown2 : ((putRow (fun (b : UInt8) => Value.int .u8 (b.toNat : Int)) (w.alloc (.cells Lib.zeros24 60)) w.heap.size 0 dk).drewN k).ownsRow B 5 1 sv n xs := by rw [eo]; exact Lib.ownsRow_grow hown k os
  have hnx2 : Below w.heap.size w ((putRow (fun (b : UInt8) => Value.int .u8 (b.toNat : Int)) (w.alloc (.cells Lib.zeros24 60)) w.heap.size 0 dk).drewN k) := by rw [eo]; exact Lib.below_grow w.heap.size w (Nat.le_refl _) k os
  generalize (putRow (fun (b : UInt8) => Value.int .u8 (b.toNat : Int)) (w.alloc (.cells Lib.zeros24 60)) w.heap.size 0 dk).drewN k = W2 at hcells hown2 hnx2 ⊢
  have hsz2 := hnx2.size
  clear eo HH0 hfmt
  go_wp2_with (at_builtin; refine wpList_append_two _ rfl _ _ 23 rfl B 5 i0 (.int .u8 0) 1 Tryd.underlying23 hi hz0 hz1 hz2 rfl _ _ _ rfl hown2 ⟨w.heap.size, 0, none⟩ (Lib.nDigits u) 24 (Lib.byteCells (Lib.decDigits u)) rfl ?c0 hcells ?c2 ?c6 ?c3 ?c4 ?c5 ?_)
  case c0 => rw [Lib.byteCells_length, Lib.decDigits_length]
  case c6 => rw [Lib.nDigits_big (by omega)]; omega
  case c2 => intro u' hu'; simp only [Lib.byteCells, List.mem_map] at hu'; obtain ⟨b, _, rfl⟩ := hu'; rfl
  case c3 => unfold maxLen; omega
  case c4 => omega
  case c5 => omega
  intro v2 w3 hown' hgrow hnear _
  have hgr : w.grownBy w3 sv.ownBlock := ⟨hgrow.os.trans hnx2.os, hgrow.tape.trans hnx2.tape, hgrow.output.trans hnx2.output, Nat.le_trans hnx2.size hgrow.size, fun q hq hne => (hgrow.block q (by omega) hne).trans (hnx2.block q hq)⟩
  have hnear' : Near w sv v2 := hnear.elim .inl (fun ⟨g', h1, h2⟩ => .inr ⟨g', h1, by omega⟩)
  clear hgrow hnx2 hown2 hcells hnear
  go_wp2
  go_ret
  refine ⟨v2, rfl, ?_, hgr, hnear'⟩
  rw [Lib.decDigits_length]
  exact hown'

theorem appU_any (B n u : Nat) (hu64 : u < 18446744073709551616) (sv : Value) (xs : List Value) (w : World) (hown : w.ownsRow B 5 1 sv n xs) (hBw : B ≤ w.heap.size) (hlim : n ≤ 65536)
    (htab : Lib.TabIs Tryd.prog w Tryd.powName .u64 Lib.pow10Tab) :
    Calls Tryd.prog 19 #[sv, .int .u64 u, .int .i64 10] w fun e w' => ∃ v', e = .returned v' ∧ w'.ownsRow B 5 1 v' (n + (Lib.decDigits u).length) (xs ++ Lib.byteCells (Lib.decDigits u)) ∧ w.grownBy w' sv.ownBlock ∧ Near w sv v' := by
  by_cases h : u < 100
  · exact appU_small B n u h sv xs w hown hBw hlim
  · exact appU_big B n u (by omega) hu64 sv xs w hown hBw hlim htab

/-- What AppendInt gives. -/
def AppPost (B n u : Nat) (sv : Value) (xs : List Value) (w : World) (e : Ending) (w' : World) : Prop :=
  ∃ v', e = .returned v' ∧ w'.ownsRow B 5 1 v' (n + (Lib.decDigits u).length) (xs ++ Lib.byteCells (Lib.decDigits u)) ∧ w.grownBy w' sv.ownBlock ∧ Near w sv v'

theorem appI16_any (B n u : Nat) (hu64 : u < 9223372036854775808) (sv : Value) (xs : List Value) (w : World) (hown : w.ownsRow B 5 1 sv n xs) (hBw : B ≤ w.heap.size) (hlim : n ≤ 65536)
    (htab : Lib.TabIs Tryd.prog w Tryd.powName .u64 Lib.pow10Tab) :
    Calls Tryd.prog 16 #[sv, .int .i64 u, .int .i64 10] w fun e w' => AppPost B n u sv xs w e w' := by
  have HT := Lib.hid htab
  have HO := Lib.hid hown
  clear htab hown
  have h0 : ¬ (u : Int) < 0 := by omega
  have h1 : (u : Int) ≤ 9223372036854775807 := by omega
  go_enter Tryd.func16, Tryd.ntmps16
  go_wp2_with (go_at_call 19; refine (appU_any B n u (by omega) sv xs w HO.out hBw hlim HT.out).mono ?_; rintro e w' ⟨v', rfl, h2, h3, h4⟩)
  go_ret
  exact ⟨v', rfl, h2, h3, h4⟩

theorem appI_any (B n u : Nat) (hu64 : u < 9223372036854775808) (sv : Value) (xs : List Value) (w : World) (hown : w.ownsRow B 5 1 sv n xs) (hBw : B ≤ w.heap.size) (hlim : n ≤ 65536)
    (htab : Lib.TabIs Tryd.prog w Tryd.powName .u64 Lib.pow10Tab) :
    Calls Tryd.prog 10 #[sv, .int .i64 u, .int .i64 10] w fun e w' => AppPost B n u sv xs w e w' := by
  have HT := Lib.hid htab
  have HO := Lib.hid hown
  clear htab hown
  go_enter Tryd.func10, Tryd.ntmps10
  go_wp2_with (go_at_call 16; refine (appI16_any B n u hu64 sv xs w HO.out hBw hlim HT.out).mono ?_; rintro e w' ⟨v', rfl, h2, h3, h4⟩)
  go_ret
  exact ⟨v', rfl, h2, h3, h4⟩
end Go.Proofs.Qxb6003964aDoor
