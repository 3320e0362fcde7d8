import Derived.Test.Qxb6003852aBlk
import Derived.Deep.QuietTactic
import Derived.BigQuiet
import Derived.WalkSpells
namespace Go.Proofs.Qxb6003852a
open Go.ChangeShapes Go.WideShapes Go.ChangeAt Go.RowKit

/-- The slice with address a and length n holds the strings ss. -/
def Strs (w : World) (a : Option Addr) (n : Nat) (ss : List ByteArray) : Prop :=
  ∀ k, k < n → ∃ b off, a = some ⟨b, off, none⟩ ∧ b < w.heap.size ∧ w.cell? ⟨b, off + k, none⟩ = some (.string (ss.getD k ByteArray.empty))

theorem Strs.below {w w' : World} {a : Option Addr} {n : Nat} {ss : List ByteArray} (h : Strs w a n ss) (hb : Below w.heap.size w w') : Strs w' a n ss := fun k hk => by
  obtain ⟨b, off, e, hlt, hc⟩ := h k hk
  exact ⟨b, off, e, Nat.lt_of_lt_of_le hlt hb.size, (hb.cell (p := ⟨b, off + k, none⟩) hlt).trans hc⟩

theorem g1Bytes_any (a : Option Addr) (n c : Nat) (ss : List ByteArray) (w : World) (h : Strs w a n ss) (hn : n ≤ maxLen) :
    Calls Try.prog 7 #[.slice a n c] w fun e w' => ∃ x : Int, 0 ≤ x ∧ x ≤ 1048577 ∧ e = .returned (.int .i64 x) ∧ w' = w := by
  unfold maxLen at hn
  have H : Hid (Strs w a n ss) := h
  clear h
  by_cases hbig : 65536 < n
  · go_enter Try.func7, Try.ntmps7
    go_wp2
    go_ret
    exact ⟨1048577, by omega, by omega, rfl, rfl⟩
  · go_enter Try.func7, Try.ntmps7
    go_wp2
    go_loop [3, 4] (fun x i => ∃ (k : Nat) (y : Int), k ≤ n ∧ i = .int .i64 k ∧ 0 ≤ y ∧ y ≤ 1048576 ∧ x = .int .i64 y) (fun _ i => n - (intOf i).toNat)
    case atStart => exact ⟨0, 16 * n, Nat.zero_le _, rfl, by omega, by omega, rfl⟩
    case round =>
      obtain ⟨k, y, hk, rfl, hy0, hy1, rfl⟩ := hrel
      by_cases hlt : k < n
      · obtain ⟨b, off, hab, hb, hc⟩ := H.out k hlt
        clear H
        subst hab
        generalize ss.getD k ByteArray.empty = s at hc
        go_wp2
        · go_ret
          exact ⟨1048577, by omega, by omega, rfl, rfl⟩
        · go_ret
          exact ⟨1048577, by omega, by omega, rfl, rfl⟩
        · go_round
          case rel => exact ⟨k + 1, y + s.size, by omega, by go_num, by omega, by omega, rfl⟩
          case measure => simp [intOf]; omega
      · clear H
        go_wp2
        go_ret
        exact ⟨y, by omega, by omega, rfl, rfl⟩

/-- It returned a bool. -/
def AnyBool (e : Ending) : Prop := ∃ b : Bool, e = .returned (.bool b)

theorem zzBytesL_any (s0 s1 s2 s3 s4 s5 s6 s7 : ByteArray) (f1 f2 : Bool) (a : Option Addr) (n c : Nat) (ss : List ByteArray) (a' : Option Addr) (n' c' : Nat) (ss' : List ByteArray) (w : World)
    (h : Strs w a n ss) (h' : Strs w a' n' ss') :
    Calls Try.prog 6 #[.string s0, .string s1, .string s2, .string s3, .string s4, .string s5, .string s6, .string s7, .bool f1, .bool f2, .slice a n c, .slice a' n' c'] w fun e w' => AnyBool e ∧ w' = w := by
  have H : Hid (Strs w a n ss) := h
  have H' : Hid (Strs w a' n' ss') := h'
  clear h h'
  go_enter Try.func6, Try.ntmps6
  go_wp2
  all_goals try (go_ret; exact ⟨⟨_, rfl⟩, rfl⟩)
  go_loop [25, 26] (fun x i => ∃ (k : Nat) (y : Int), k ≤ n ∧ i = .int .i64 k ∧ 0 ≤ y ∧ y ≤ 1048576 ∧ x = .int .i64 y) (fun _ i => n - (intOf i).toNat)
  case atStart => exact ⟨0, _, Nat.zero_le _, rfl, by omega, by omega, rfl⟩
  case round =>
    obtain ⟨k, y, hk, rfl, hy0, hy1, rfl⟩ := hrel
    by_cases hlt : k < n
    · obtain ⟨b, off, hab, hb, hc⟩ := H.out k hlt
      clear H H'
      subst hab
      generalize ss.getD k ByteArray.empty = s at hc
      go_wp2
      · go_ret
        exact ⟨⟨_, rfl⟩, rfl⟩
      · go_ret
        exact ⟨⟨_, rfl⟩, rfl⟩
      · go_round
        case rel => exact ⟨k + 1, y + s.size, by omega, by go_num, by omega, by omega, rfl⟩
        case measure => simp [intOf]; omega
    · clear H
      go_wp2
      all_goals try (go_ret; exact ⟨⟨_, rfl⟩, rfl⟩)
      go_loop [25, 27] (fun x i => ∃ (k : Nat) (y : Int), k ≤ n' ∧ i = .int .i64 k ∧ 0 ≤ y ∧ y ≤ 1048576 ∧ x = .int .i64 y) (fun _ i => n' - (intOf i).toNat)
      case atStart => exact ⟨0, _, Nat.zero_le _, rfl, by omega, by omega, rfl⟩
      case round =>
        obtain ⟨k2, y2, hk2, rfl, hy20, hy21, rfl⟩ := hrel
        by_cases hlt2 : k2 < n'
        · obtain ⟨b, off, hab, hb, hc⟩ := H'.out k2 hlt2
          clear H'
          subst hab
          generalize ss'.getD k2 ByteArray.empty = s at hc
          go_wp2
          · go_ret
            exact ⟨⟨_, rfl⟩, rfl⟩
          · go_ret
            exact ⟨⟨_, rfl⟩, rfl⟩
          · go_round
            case rel => exact ⟨k2 + 1, y2 + s.size, by omega, by go_num, by omega, by omega, rfl⟩
            case measure => simp [intOf]; omega
        · clear H'
          go_wp2
          go_ret
          exact ⟨⟨_, rfl⟩, rfl⟩

theorem Try.info9 : (Try.prog.info? 9).map (fun i => (i.zero, i.size, i.bytes)) = some (some (.string ByteArray.empty), 1, 16) := by kernel_rfl
theorem make_strs (n : Nat) (hn : n ≤ 65536) (w : World) :
    (Instr.makeSlice 22 (.int .i64 (n : Int)) (.int .i64 (n : Int))).run Try.prog w = .ok (.slice (some ⟨w.heap.size, 0, none⟩) n n) (w.alloc (.cells (madeCells #[.string ByteArray.empty] n) 9)) := by
  obtain ⟨i0, hi, hz0, hz1, hz2⟩ := info_parts Try.info9
  have := run_make (P := Try.prog) w 22 9 i0 (.string ByteArray.empty) Try.underlying22 hi hz0 .i64 .i64 n n (by omega) (by omega) (by rw [hz2]; omega) (by omega)
  rw [this, hz1]
  simp [Value.cells]

theorem g1Clone_nil (w : World) :
    Calls Try.prog 8 #[.slice none 0 0] w fun e w' => ∃ a n c, e = .returned (.slice a n c) ∧ Below w.heap.size w w' := by
  have hnil := fun w a n c => Lib.run_eql_slice_nil (P := Try.prog) w 22 9 a n c 0 0 Try.underlying22
  go_enter Try.func8, Try.ntmps8
  go_wp2
  go_ret
  exact ⟨_, _, _, rfl, Below.refl _ _⟩

set_option maxHeartbeats 400000 in
theorem g1Clone_some (ad : Addr) (n c : Nat) (ss : List ByteArray) (w : World) (h : Strs w (some ad) n ss) (hn : n ≤ 65536) :
    Calls Try.prog 8 #[.slice (some ad) n c] w fun e w' => ∃ a n c, e = .returned (.slice a n c) ∧ Below w.heap.size w w' := by
  have H : Hid (Strs w (some ad) n ss) := h
  clear h
  have hmk := make_strs n hn
  have hnil := fun w a n c => Lib.run_eql_slice_nil (P := Try.prog) w 22 9 a n c 0 0 Try.underlying22
  go_enter Try.func8, Try.ntmps8
  go_wp2
  go_loopw [4] (fun i wr => ∃ k : Nat, k ≤ n ∧ i = .int .i64 k ∧ Below w.heap.size w wr ∧ ∃ cur, cur.size = n ∧ wr.heap[w.heap.size]? = some (.cells cur 9 (0, 0))) (fun i _ => n - (intOf i).toNat)
  case atStart => exact ⟨0, Nat.zero_le _, rfl, (Below.refl _ _).alloc (Nat.le_refl _) _, _, size_madeCells _ _, blk_new _ _⟩
  case round =>
    obtain ⟨k, hk, rfl, hb, cur, hcur, hblk⟩ := hrel
    clear hmk hnil
    by_cases hlt : k < n
    · obtain ⟨b, off, hab, hbl, hc⟩ := H.out k hlt
      clear H
      simp only [Option.some.injEq] at hab
      subst hab
      generalize ss.getD k ByteArray.empty = s at hc
      have hc' := (hb.cell (p := ⟨b, off + k, none⟩) hbl).trans hc
      have hd : wr.cell? ⟨w.heap.size, k, none⟩ = some cur[k] := (blk_cell hblk k).trans (by simp)
      have hf : wr.frozen? ⟨w.heap.size, k, none⟩ = false := blk_free hblk k
      have hb' := hb.setCell (p := ⟨w.heap.size, k, none⟩) (Nat.le_refl _) (.string s)
      have hblk' := blk_set hblk k (.string s)
      have HB : Hid (Below w.heap.size w (wr.setCell ⟨w.heap.size, k, none⟩ (.string s)) ∧ (wr.setCell ⟨w.heap.size, k, none⟩ (.string s)).heap[w.heap.size]? = some (.cells (cur.setIfInBounds k (.string s)) 9 (0, 0))) := ⟨hb', hblk'⟩
      clear hb hb' hblk hblk' hc
      go_wp2
      go_roundw
      case rel => exact ⟨k + 1, by omega, by go_num, HB.out.1, _, by simpa using hcur, HB.out.2⟩
      case measure => simp [intOf]; omega
    · clear H
      go_wp2
      go_ret
      exact ⟨_, _, _, rfl, hb⟩
end Go.Proofs.Qxb6003852a
