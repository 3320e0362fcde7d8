import Derived.Test.Qxb6003852aLack2
namespace Go.Proofs.Qxb6003852a
open Go.ChangeShapes Go.WideShapes Go.ChangeAt Go.RowKit

theorem zzLacking_any (s0 s1 s2 s3 s4 s5 s6 s7 pgo : ByteArray) (fz sh : Bool) (a1 : Option Addr) (n1 c1 : Nat) (a2 : Option Addr) (n2 c2 : Nat) (w : World) (p : Bool) (hp : pgo.toList.isEmpty = !p) :
    Calls Try.prog 9 #[.string s0, .string s1, .string s2, .string s3, .string s4, .string s5, .string s6, .string s7, .string pgo, .bool fz, .bool sh, .slice a1 n1 c1, .slice a2 n2 c2] w fun e w' =>
      ∃ v, e = .returned v ∧ w'.ownsRow w.heap.size 9 1 v (lackL p fz).length ((lackL p fz).map Value.string) ∧ Below w.heap.size w w' := by
  have HP : Hid (pgo.toList.isEmpty = !p) := hp
  clear hp
  go_enter Try.func9, Try.ntmps9
  go_wp2_with (go_at_call 18; refine (lacking_any s0 s1 s2 s3 s4 s5 s6 s7 pgo fz sh _ _ w p HP.out).mono ?_; rintro e w' ⟨v, rfl, hown, hb⟩)
  go_ret
  exact ⟨v, rfl, hown, hb⟩

theorem take_map (xs : List ByteArray) (k : Nat) (h : k < xs.length) : (xs.take (k + 1)).map Value.string = (xs.take k).map Value.string ++ [.string (xs.getD k ByteArray.empty)] := by
  rw [List.take_succ_eq_append_getElem h, List.map_append]; congr 1; simp [h]

set_option maxHeartbeats 800000 in
theorem concat_any (a : Option Addr) (c : Nat) (xs : List ByteArray) (a' : Option Addr) (c' : Nat) (ys : List ByteArray) (w : World) (n n' : Nat) (hnl : xs.length = n) (hnl' : ys.length = n') (h : Strs w a n xs) (h' : Strs w a' n' ys) (hn : n ≤ 65536) (hn' : n' ≤ 65536) :
    Calls Try.prog 10 #[.slice a n c, .slice a' n' c'] w fun e w' => ∃ v, e = .returned v ∧ w'.ownsRow w.heap.size 9 1 v (xs ++ ys).length ((xs ++ ys).map Value.string) ∧ Below w.heap.size w w' := by
  obtain ⟨i0, hi, hz0, hz1, hz2⟩ := info_parts Try.info9
  have H : Hid (Strs w a n xs) := h
  have H' : Hid (Strs w a' n' ys) := h'
  have HL : Hid (xs.length = n) := hnl
  have HL' : Hid (ys.length = n') := hnl'
  clear h h' hnl hnl'
  go_enter Try.func10, Try.ntmps10
  go_wp2_with (at_make; refine wpList_make_own _ rfl _ _ 22 rfl w.heap.size 9 i0 (.string ByteArray.empty) 1 Try.underlying22 hi hz0 hz1 .i64 .i64 _ (n + n') rfl rfl (by omega) ?b2 ?b3 ?b4 ?_)
  case b2 => rw [hz2]; omega
  case b3 => unfold maxLen; omega
  case b4 => exact Nat.le_refl _
  intro w1 hown1 hgrow1
  have hb1 : Below w.heap.size w w1 := Below.grown (Below.refl _ _) hgrow1 (Nat.le_refl _) (fun k hk => by cases hk)
  clear hgrow1
  go_wp2
  go_loopw [5, 6] (fun v i wr => ∃ k : Nat, k ≤ n ∧ i = .int .i64 k ∧ wr.ownsRow w.heap.size 9 1 v k ((xs.take k).map Value.string) ∧ Below w.heap.size w wr)
    (fun _ i _ => n - (intOf i).toNat)
  case atStart => exact ⟨0, Nat.zero_le _, rfl, hown1, hb1⟩
  case round =>
    clear hown1 hb1
    obtain ⟨k, hk, rfl, hown, hb⟩ := hrel
    by_cases hlt : k < n
    · obtain ⟨b, off, hab, hbl, hc⟩ := H.out k hlt
      have HT := take_map xs k (by rw [HL.out]; exact hlt)
      have HT : Hid ((xs.take (k + 1)).map Value.string = (xs.take k).map Value.string ++ [.string (xs.getD k ByteArray.empty)]) := HT
      clear H H'
      subst hab
      generalize xs.getD k ByteArray.empty = s at hc HT
      have hc' := (hb.cell (p := ⟨b, off + k, none⟩) hbl).trans hc
      clear hc
      go_wp2_with (at_builtin; refine wpList_append_own _ rfl _ _ 22 rfl w.heap.size 9 i0 (.string ByteArray.empty) 1 16 Try.underlying22 hi hz0 hz1 hz2 rfl (by decide) _ _ _ rfl (hown.alloc _) ⟨_, 0, none⟩ 1 1 [.string s] rfl rfl ?c1 ?c2 ?c3 ?c4 ?c5 ?_)
      case c1 => exact one_newL _ _ _ _ _ rfl rfl
      case c2 => intro u hu; simp at hu; subst hu; rfl
      case c3 => unfold maxLen; omega
      case c4 => omega
      case c5 => have := hb.size; simp; omega
      intro v' w2 hown' hgrow _
      have hb' : Below w.heap.size w w2 := Below.grown (hb.alloc hb.size _) hgrow (by have := hb.size; simp; omega) (fun g hg => (hown.lt g hg).1)
      clear hgrow hown hb hc'
      go_wp2
      go_roundw
      case rel => exact ⟨k + 1, by omega, by go_num, by rw [HT.out, List.map_take]; exact hown', hb'⟩
      case measure => simp [intOf]; omega
    · obtain rfl : k = n := by omega
      have hall : xs.take k = xs := List.take_of_length_le (by rw [HL.out]; exact Nat.le_refl _)
      rw [hall] at hown
      clear H hall
      go_wp2
      go_loopw [5, 7] (fun v i wr => ∃ j : Nat, j ≤ n' ∧ i = .int .i64 j ∧ wr.ownsRow w.heap.size 9 1 v (k + j) (xs.map Value.string ++ (ys.take j).map Value.string) ∧ Below w.heap.size w wr)
        (fun _ i _ => n' - (intOf i).toNat)
      case atStart => exact ⟨0, Nat.zero_le _, rfl, by simpa using hown, hb⟩
      case round =>
        clear hown hb
        obtain ⟨j, hj, rfl, hown, hb⟩ := hrel
        by_cases hlt : j < n'
        · obtain ⟨b, off, hab, hbl, hc⟩ := H'.out j hlt
          have HT := take_map ys j (by rw [HL'.out]; exact hlt)
          have HT : Hid ((ys.take (j + 1)).map Value.string = (ys.take j).map Value.string ++ [.string (ys.getD j ByteArray.empty)]) := HT
          clear H'
          subst hab
          generalize ys.getD j ByteArray.empty = s at hc HT
          have hc' := (hb.cell (p := ⟨b, off + j, none⟩) hbl).trans hc
          clear hc
          go_wp2_with (at_builtin; refine wpList_append_own _ rfl _ _ 22 rfl w.heap.size 9 i0 (.string ByteArray.empty) 1 16 Try.underlying22 hi hz0 hz1 hz2 rfl (by decide) _ _ _ rfl (hown.alloc _) ⟨_, 0, none⟩ 1 1 [.string s] rfl rfl ?d1 ?d2 ?d3 ?d4 ?d5 ?_)
          case d1 => exact one_newL _ _ _ _ _ rfl rfl
          case d2 => intro u hu; simp at hu; subst hu; rfl
          case d3 => unfold maxLen; omega
          case d4 => omega
          case d5 => have := hb.size; simp; omega
          intro v' w2 hown' hgrow _
          have hb' : Below w.heap.size w w2 := Below.grown (hb.alloc hb.size _) hgrow (by have := hb.size; simp; omega) (fun g hg => (hown.lt g hg).1)
          clear hgrow hown hb hc'
          go_wp2
          go_roundw
          case rel => exact ⟨j + 1, by omega, by go_num, by rw [HT.out, List.map_take, ← Nat.add_assoc]; exact hown', hb'⟩
          case measure => simp [intOf]; omega
        · obtain rfl : j = n' := by omega
          have hall : ys.take j = ys := List.take_of_length_le (by rw [HL'.out]; exact Nat.le_refl _)
          rw [hall] at hown
          clear H' hall
          go_wp2
          go_ret
          exact ⟨_, rfl, by rw [List.length_append, List.map_append, HL.out, HL'.out]; exact hown, hb⟩

theorem equal_ne (a : Option Addr) (c : Nat) (a' : Option Addr) (c' : Nat) (w : World) (n n' : Nat) (hne : ((n : Int) != (n' : Int)) = true) :
    Calls Try.prog 11 #[.slice a n c, .slice a' n' c'] w fun e w' => e = .returned (.bool false) ∧ Below w.heap.size w w' := by
  go_enter Try.func11, Try.ntmps11
  go_wp2
  go_ret
  exact ⟨rfl, Below.refl _ _⟩

theorem below_drewN {B : Nat} {a w : World} (h : Below B a w) (n : Nat) : Below B a (w.drewN n) := ⟨h.os, h.tape, h.output, h.size, h.block⟩

set_option maxHeartbeats 800000 in
theorem equal_any (a : Option Addr) (c : Nat) (xs : List ByteArray) (a' : Option Addr) (c' : Nat) (w : World) (n : Nat) (h : Strs w a n xs) (h' : Strs w a' n xs) (hn : n ≤ 65536) :
    Calls Try.prog 11 #[.slice a n c, .slice a' n c'] w fun e w' => e = .returned (.bool true) ∧ Below w.heap.size w w' := by
  have H : Hid (Strs w a n xs) := h
  have H' : Hid (Strs w a' n xs) := h'
  clear h h'
  go_enter Try.func11, Try.ntmps11
  go_wp2
  go_loopw [5] (fun i wr => ∃ k : Nat, k ≤ n ∧ i = .int .i64 k ∧ Below w.heap.size w wr) (fun i _ => n - (intOf i).toNat)
  case atStart => exact ⟨0, Nat.zero_le _, rfl, Below.refl _ _⟩
  case round =>
    obtain ⟨k, hk, rfl, hb⟩ := hrel
    by_cases hlt : k < n
    · obtain ⟨b, off, hab, hbl, hc⟩ := H.out k hlt
      obtain ⟨b', off', hab', hbl', hc'⟩ := H'.out k hlt
      clear H H'
      subst hab hab'
      generalize xs.getD k ByteArray.empty = s at hc hc'
      have hd := (hb.cell (p := ⟨b, off + k, none⟩) hbl).trans hc
      have hd' := (hb.cell (p := ⟨b', off' + k, none⟩) hbl').trans hc'
      have hlt' : (k : Int) < (n : Int) := by omega
      clear hc hc'
      go_wp2
      go_quiet (fail)
      go_wp2
      go_roundw
      case rel => exact ⟨k + 1, by omega, by go_num, below_drewN hb _⟩
      case measure => simp [intOf]; omega
    · clear H H'
      go_wp2
      go_ret
      exact ⟨rfl, hb⟩
end Go.Proofs.Qxb6003852a
