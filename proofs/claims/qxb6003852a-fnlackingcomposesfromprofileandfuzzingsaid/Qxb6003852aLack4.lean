import Derived.Test.Qxb6003852aLack3
namespace Go.Proofs.Qxb6003852a
open Go.ChangeShapes Go.WideShapes Go.ChangeAt Go.RowKit

theorem own_strs {w : World} {base : Nat} {v : Value} {n : Nat} {xs : List ByteArray} (h : w.ownsRow base 9 1 v n (xs.map Value.string)) (hn : xs.length = n) : ∃ a cap, v = .slice a n cap ∧ Strs w a n xs := by
  obtain ⟨h1, ⟨rfl, rfl⟩ | ⟨g, cap, cur, rfl, hg, hh, r⟩⟩ := h
  · exact ⟨none, 0, rfl, fun k hk => by omega⟩
  · have hown : w.ownsRow base 9 1 (.slice (some ⟨g, 0, none⟩) n cap) n (xs.map Value.string) := ⟨h1, .inr ⟨g, cap, cur, rfl, hg, hh, r⟩⟩
    refine ⟨some ⟨g, 0, none⟩, cap, rfl, fun k hk => ⟨g, 0, rfl, (hown.lt g rfl).2, ?_⟩⟩
    have := hown.cells (g := g) rfl k (.string (xs.getD k ByteArray.empty)) (by simp [show k < xs.length by omega])
    rw [← add_plain]; exact this

theorem g1Clone_any (a : Option Addr) (n c : Nat) (ss : List ByteArray) (w : World) (h : Strs w a n ss) (hn : n ≤ 65536) (hnil : a = none → n = 0 ∧ c = 0) :
    Calls Try.prog 8 #[.slice a n c] w fun e w' => ∃ a n c, e = .returned (.slice a n c) ∧ Below w.heap.size w w' := by
  cases a with
  | none =>
    obtain ⟨rfl, rfl⟩ := hnil rfl
    exact g1Clone_nil w
  | some ad => exact g1Clone_some ad n c ss w h hn

theorem lack_strs (s0 s1 s2 s3 s4 s5 s6 s7 pgo : ByteArray) (fz sh : Bool) (a1 : Option Addr) (n1 c1 : Nat) (a2 : Option Addr) (n2 c2 : Nat) (w : World) (p : Bool) (hp : pgo.toList.isEmpty = !p) (m : Nat) (hm : (lackL p fz).length = m) :
    Calls Try.prog 9 #[.string s0, .string s1, .string s2, .string s3, .string s4, .string s5, .string s6, .string s7, .string pgo, .bool fz, .bool sh, .slice a1 n1 c1, .slice a2 n2 c2] w fun e w' =>
      ∃ a cap, e = .returned (.slice a m cap) ∧ Strs w' a m (lackL p fz) ∧ Below w.heap.size w w' := by
  refine (zzLacking_any s0 s1 s2 s3 s4 s5 s6 s7 pgo fz sh a1 n1 c1 a2 n2 c2 w p hp).mono ?_
  rintro e w' ⟨v, rfl, hown, hb⟩
  rw [hm] at hown
  obtain ⟨a, cap, rfl, hs⟩ := own_strs hown hm
  exact ⟨a, cap, rfl, hs, hb⟩

theorem concat_strs (a : Option Addr) (c : Nat) (xs : List ByteArray) (a' : Option Addr) (c' : Nat) (ys : List ByteArray) (w : World) (n n' m : Nat) (hnl : xs.length = n) (hnl' : ys.length = n') (hm : n + n' = m) (h : Strs w a n xs) (h' : Strs w a' n' ys) (hn : n ≤ 65536) (hn' : n' ≤ 65536) :
    Calls Try.prog 10 #[.slice a n c, .slice a' n' c'] w fun e w' => ∃ a cap, e = .returned (.slice a m cap) ∧ Strs w' a m (xs ++ ys) ∧ Below w.heap.size w w' := by
  refine (concat_any a c xs a' c' ys w n n' hnl hnl' h h' hn hn').mono ?_
  rintro e w' ⟨v, rfl, hown, hb⟩
  have hl : (xs ++ ys).length = m := by rw [List.length_append]; omega
  rw [hl] at hown
  obtain ⟨a, cap, rfl, hs⟩ := own_strs hown hl
  exact ⟨a, cap, rfl, hs, hb⟩

theorem strs_one {w : World} {a : Option Addr} {x : ByteArray} (h : Strs w a 1 [x]) : ∃ b off, a = some ⟨b, off, none⟩ ∧ b < w.heap.size ∧ w.cell? ⟨b, off, none⟩ = some (.string x) := by
  obtain ⟨b, off, e, h1, h2⟩ := h 0 (by omega)
  exact ⟨b, off, e, h1, by simpa using h2⟩

theorem e_empty : ({ data := #[] } : ByteArray).toList.isEmpty = !false := by decide +kernel
theorem p_empty : ({ data := #[112] } : ByteArray).toList.isEmpty = !true := by decide +kernel
theorem prof_full : profS.toList.isEmpty = false := by decide +kernel
theorem fuzz_full : fuzzS.toList.isEmpty = false := by decide +kernel
theorem prof_fuzz : (profS.toList == fuzzS.toList) = false := by decide +kernel
theorem cell_later {w w' : World} {p : Addr} {v : Value} (hb : Below w.heap.size w w') (hl : p.block < w.heap.size) (h : w.cell? p = some v) : w'.cell? p = some v := (hb.cell hl).trans h

set_option maxRecDepth 100000 in
set_option maxHeartbeats 1600000 in
theorem law_x (s0 s1 s2 s3 s4 s5 s6 s7 : ByteArray) (fz sh : Bool) (a : Option Addr) (n c : Nat) (ss : List ByteArray) (a' : Option Addr) (n' c' : Nat) (ss' : List ByteArray) (w : World)
    (h : Strs w a n ss) (h' : Strs w a' n' ss') (hnil : a = none → n = 0 ∧ c = 0) (hnil' : a' = none → n' = 0 ∧ c' = 0) (p : Bool) (hp : s7.toList.isEmpty = !p) :
    Calls Try.prog 3 #[.string s0, .string s1, .string s2, .string s3, .string s4, .string s5, .string s6, .string s7, .bool fz, .bool sh, .slice a n c, .slice a' n' c'] w fun e w' => e = .returned (.bool true) ∧ Below w.heap.size w w' := by
  have hz := zzBytesL_any s0 s1 s2 s3 s4 s5 s6 s7 fz sh a n c ss a' n' c' ss' w h h'
  have HN : Hid ((a = none → n = 0 ∧ c = 0) ∧ (a' = none → n' = 0 ∧ c' = 0)) := ⟨hnil, hnil'⟩
  have HS : Hid (Strs w a n ss ∧ Strs w a' n' ss') := ⟨h, h'⟩
  clear h h' hnil hnil'
  go_enter Try.func3, Try.ntmps3
  go_wp2_with (first | (go_at_call 6; refine hz.mono ?_; rintro e w' ⟨⟨b, rfl⟩, rfl⟩; clear hz; cases b))
  all_goals try (go_ret; exact ⟨rfl, Below.refl _ _⟩)
  refine (g1Bytes_any a n c ss _ HS.out.1 (by unfold maxLen; omega)).mono ?_
  rintro e w2 ⟨x, hx0, hx1, rfl, rfl⟩
  go_wp2_with fail
  refine (g1Bytes_any a' n' c' ss' _ HS.out.2 (by unfold maxLen; omega)).mono ?_
  rintro e w2 ⟨x', hx0', hx1', rfl, rfl⟩
  go_wp2_with fail
  all_goals try (go_ret; exact ⟨rfl, Below.refl _ _⟩)
  refine (g1Clone_any a n c ss _ HS.out.1 (by omega) HN.out.1).mono ?_
  rintro e w3 ⟨a3, n3, c3, rfl, hb3⟩
  go_wp2_with fail
  refine (g1Clone_any a' n' c' ss' _ (HS.out.2.below hb3) (by omega) HN.out.2).mono ?_
  rintro e w4 ⟨a4, n4, c4, rfl, hb4⟩
  have hb : Below w2.heap.size w2 w4 := hb3.trans (hb4.mono hb3.size)
  clear HS HN hb3 hb4
  go_wp2_with fail
  refine (lack_strs _ _ _ _ _ _ _ _ _ _ _ _ _ _ _ _ _ _ p hp _ rfl).mono ?_
  rintro e w5 ⟨a5, c5, rfl, hs5, hb5⟩
  have hb1 := hb.trans (hb5.mono hb.size)
  have HP : Hid (s7.toList.isEmpty = !p) := hp
  clear hp
  go_wp2_with fail
  refine (lack_strs _ _ _ _ _ _ _ _ _ _ _ _ _ _ _ _ _ _ false e_empty 0 rfl).mono ?_
  rintro e w6 ⟨a6, c6, rfl, -, hb6⟩
  have hs6 := hs5.below hb6
  have hb2 := hb1.trans (hb6.mono hb1.size)
  clear hs5 hb1 hb5 hb6 hb
  go_wp2_with fail
  refine (lack_strs _ _ _ _ _ _ _ _ _ _ _ _ _ _ _ _ _ _ true p_empty 1 rfl).mono ?_
  rintro e w7 ⟨a7, c7, rfl, hp7, hb7⟩
  have hs7 := hs6.below hb7
  have hb3 := hb2.trans (hb7.mono hb2.size)
  clear hs6 hb2 hb7
  go_wp2_with fail
  refine (lack_strs _ _ _ _ _ _ _ _ _ _ _ _ _ _ _ _ _ _ false e_empty 1 rfl).mono ?_
  rintro e w8 ⟨a8, c8, rfl, hf8, hb8⟩
  have HB : Hid (Below w2.heap.size w2 w8) := hb3.trans (hb8.mono hb3.size)
  have HS8 : Hid (Strs w8 a5 (lackL p fz).length (lackL p fz)) := hs7.below hb8
  have HP8 : Hid (Strs w8 a7 1 [profS]) := hp7.below hb8
  have HF8 : Hid (Strs w8 a8 1 [fuzzS]) := hf8
  clear hs7 hp7 hb3 hb8 hf8
  obtain ⟨b7, o7, e7, l7, g7⟩ := strs_one HP8.out
  obtain ⟨b8, o8, e8, l8, g8⟩ := strs_one HF8.out
  subst e7 e8
  have k1 := prof_full
  have k2 := fuzz_full
  have k3 := prof_fuzz
  go_wp2_with fail
  go_quiet (fail)
  clear k1 k2 k3 g7 g8 l7 l8
  have hd : Below w8.heap.size w8 (w8.drewN nq) := below_drewN (Below.refl _ _) nq
  have HB' : Hid (Below w2.heap.size w2 (w8.drewN nq)) := HB.out.trans (hd.mono HB.out.size)
  have HS9 : Hid (Strs (w8.drewN nq) a5 (lackL p fz).length (lackL p fz)) := HS8.out.below hd
  have HP9 : Hid (Strs (w8.drewN nq) (some ⟨b7, o7, none⟩) 1 [profS]) := HP8.out.below hd
  have HF9 : Hid (Strs (w8.drewN nq) (some ⟨b8, o8, none⟩) 1 [fuzzS]) := HF8.out.below hd
  clear HB HS8 HP8 HF8 hd
  have nilS : ∀ wx, Strs wx none 0 [] := fun wx k hk => by omega
  have HNil : Hid (∀ wx, Strs wx none 0 []) := nilS
  clear nilS
  have hp := HP.out
  cases p <;> cases fz
  · go_wp2_with fail
    refine (equal_any a5 c5 [] none 0 _ 0 HS9.out (HNil.out _) (by omega)).mono ?_
    rintro e w9 ⟨rfl, hb9⟩
    have hb10 := HB'.out.trans (hb9.mono HB'.out.size)
    clear HS9 HP9 HF9 HNil HB' hb9
    go_wp2
    go_ret
    exact ⟨rfl, hb10⟩
  · go_wp2_with fail
    refine (concat_strs none 0 [] _ c8 [fuzzS] _ 0 1 1 rfl rfl rfl (HNil.out _) HF9.out (by omega) (by omega)).mono ?_
    rintro e w9 ⟨a9, c9, rfl, hs9, hb9⟩
    have hb10 := HB'.out.trans (hb9.mono HB'.out.size)
    have hs10 := HS9.out.below hb9
    clear HS9 HP9 HF9 HNil HB' hb9
    go_wp2_with fail
    refine (equal_any a5 c5 [fuzzS] a9 c9 _ 1 hs10 hs9 (by omega)).mono ?_
    rintro e w11 ⟨rfl, hb11⟩
    have hb12 := hb10.trans (hb11.mono hb10.size)
    clear hb10 hb11 hs9 hs10
    go_wp2
    go_ret
    exact ⟨rfl, hb12⟩
  · go_wp2_with fail
    refine (concat_strs none 0 [] _ c7 [profS] _ 0 1 1 rfl rfl rfl (HNil.out _) HP9.out (by omega) (by omega)).mono ?_
    rintro e w9 ⟨a9, c9, rfl, hs9, hb9⟩
    have hb10 := HB'.out.trans (hb9.mono HB'.out.size)
    have hs10 := HS9.out.below hb9
    clear HS9 HP9 HF9 HNil HB' hb9
    go_wp2_with fail
    refine (equal_any a5 c5 [profS] a9 c9 _ 1 hs10 hs9 (by omega)).mono ?_
    rintro e w11 ⟨rfl, hb11⟩
    have hb12 := hb10.trans (hb11.mono hb10.size)
    clear hb10 hb11 hs9 hs10
    go_wp2
    go_ret
    exact ⟨rfl, hb12⟩
  · go_wp2_with fail
    refine (concat_strs none 0 [] _ c7 [profS] _ 0 1 1 rfl rfl rfl (HNil.out _) HP9.out (by omega) (by omega)).mono ?_
    rintro e w9 ⟨a9, c9, rfl, hs9, hb9⟩
    have hb10 := HB'.out.trans (hb9.mono HB'.out.size)
    have hs10 := HS9.out.below hb9
    have hf10 := HF9.out.below hb9
    clear HS9 HP9 HF9 HNil HB' hb9
    go_wp2_with fail
    refine (concat_strs a9 c9 [profS] _ c8 [fuzzS] _ 1 1 2 rfl rfl rfl hs9 hf10 (by omega) (by omega)).mono ?_
    rintro e w11 ⟨a11, c11, rfl, hs11, hb11⟩
    have hb12 := hb10.trans (hb11.mono hb10.size)
    have hs12 := hs10.below hb11
    clear hs9 hs10 hf10 hb10 hb11
    go_wp2_with fail
    refine (equal_any a5 c5 [profS, fuzzS] a11 c11 _ 2 hs12 hs11 (by omega)).mono ?_
    rintro e w13 ⟨rfl, hb13⟩
    have hb14 := hb12.trans (hb13.mono hb12.size)
    clear hb12 hb13 hs11 hs12
    go_wp2
    go_ret
    exact ⟨rfl, hb14⟩
end Go.Proofs.Qxb6003852a
