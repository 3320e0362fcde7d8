/-
  The law, whole.
-/
import Derived.Test.Qxb6003964aDoorLawB
namespace Go.Proofs.Qxb6003964aDoor
open Go.ChangeShapes Go.WideShapes Go.ChangeAt Go.RowKit
open Go.Lib (byteCells decDigits nDigits)

/-- A slice argument of whole numbers. -/
structure NumArg (k : IntKind) (W : World) (ao : Option Addr) (n c : Nat) (Z : Nat → Int) : Prop where
  nil : ao = none → n = 0 ∧ c = 0
  cell : ∀ j, j < n → ∀ a, ao = some a → W.cell? (a.add j) = some (.int k (Z j))
  blk : ∀ a, ao = some a → 0 < n → a.block < W.heap.size
variable {w w0 : World} {ao bo : Option Addr} {la ca lb cb : Nat} {Z E : Nat → Int} {fail : Bool}

def kCells (k : IntKind) (n : Nat) (Z : Nat → Int) : List Value := (List.range n).map (fun j => Value.int k (Z j))
theorem kCells_len (k : IntKind) (n : Nat) (Z : Nat → Int) : (kCells k n Z).length = n := by simp [kCells]
theorem kCells_one (k : IntKind) (n : Nat) (Z : Nat → Int) : ∀ v ∈ kCells k n Z, v.oneCell' = true := by
  intro v hv; simp only [kCells, List.mem_map] at hv; obtain ⟨j, _, rfl⟩ := hv; rfl
theorem kCells_get {k : IntKind} {n : Nat} {Z : Nat → Int} {j : Nat} (h : j < n) : (kCells k n Z)[j]? = some (.int k (Z j)) := by simp [kCells, h]
theorem kCells_some {k : IntKind} {n : Nat} {Z : Nat → Int} {j : Nat} {v : Value} (h : (kCells k n Z)[j]? = some v) : j < n ∧ v = .int k (Z j) := by
  have hk : j < n := by have := (List.getElem?_eq_some_iff.1 h).1; rwa [kCells_len] at this
  rw [kCells_get hk] at h
  exact ⟨hk, by simpa using h.symm⟩

theorem addr_block (a : Addr) (j : Nat) : (a.add j).block = a.block := by
  unfold Addr.add
  split <;> rfl
/-- copy of an argument into a row that was made last, of as many cells -/
theorem copy_arg (dT e : TypeId) (z : Value) (t : TypeId) (k : IntKind) (n c : Nat) (hu : Tryd.prog.underlying dT = some (.slice e)) (hs : (Tryd.prog.info? e).map (·.size) = some 1)
    {w1 : World} (h : NumArg k w ao n c Z) (hF : Fr (fun _ => False) w w1) :
    (Builtin.copy_ #[dT, dT] 3 #[.slice (some ⟨w1.heap.size, 0, none⟩) n n, .slice ao n c]).run Tryd.prog (w1.alloc (.cells (madeCells #[z] n) t)) = .ok (.int .i64 (n : Int)) (w1.alloc (.cells (kCells k n Z).toArray t)) := by
  cases ao with
  | none =>
    obtain ⟨rfl, rfl⟩ := h.nil rfl
    have hz : (kCells k 0 Z).toArray = madeCells #[z] 0 := by simp [kCells, madeCells]
    rw [hz]
    cases hq : Tryd.prog.info? e with
    | none => simp [hq] at hs
    | some i =>
      simp [Builtin.copy_, run_underlying hu, Builtin.lenOf, Builtin.firstCells, sizeOf, typeInfo, hq]
      rfl
  | some a =>
    refine copy_new dT e z t w1 n c a (kCells k n Z) hu hs (kCells_len _ _ _) (fun j v hj => ?_) (kCells_one _ _ _)
    obtain ⟨hjn, rfl⟩ := kCells_some hj
    have hb := h.blk a rfl (by omega)
    have hb2 : (a.add j).block < w.heap.size := by rw [addr_block]; exact hb
    exact ((hF.alloc _).cell (p := a.add j) hb2 id).trans (h.cell j hjn a rfl)

theorem w2_cells (w : World) (c d : List Value) : ((w.alloc (.cells c.toArray 2)).alloc (.cells d.toArray 5)).heap[w.heap.size]? = some (.cells c.toArray 2 (0, 0)) ∧ ((w.alloc (.cells c.toArray 2)).alloc (.cells d.toArray 5)).heap[w.heap.size + 1]? = some (.cells d.toArray 5 (0, 0)) := by
  refine ⟨blk_old (blk_new w _), ?_⟩
  have := blk_new (w.alloc (.cells c.toArray 2)) (.cells d.toArray 5)
  simpa using this

set_option maxRecDepth 100000 in
set_option maxHeartbeats 8000000 in
theorem law_any (hids : NumArg .i64 w ao la ca Z) (hZ : ∀ j, j < la → -9223372036854775808 ≤ Z j ∧ Z j < 9223372036854775808) (hends : NumArg .u8 w bo lb cb E) (hE : ∀ j, j < lb → 0 ≤ E j ∧ E j < 256)
    (htab : Lib.TabIs Tryd.prog w Tryd.powName .u64 Lib.pow10Tab) :
    Calls Tryd.prog 3 #[.slice ao la ca, .slice bo lb cb, .bool fail] w fun e w' => LPost w e w' := by
  have HZ := Lib.hid hZ
  have HE := Lib.hid hE
  have Htab := Lib.hid htab
  have hbelow : Hid (Below w.heap.size w w) := Below.refl _ _
  clear hZ hE htab
  by_cases hla : la ≤ 256
  · by_cases hlb : lb ≤ 4096
    · have hmk1 := make_i64s la (by omega) w
      have hcp1 := copy_arg (w := w) (w1 := w) 22 2 (.int .i64 0) 2 .i64 la ca Tryd.underlying22 size2 hids (Fr.refl _ _)
      have hmk2 := make_bytes lb (by omega) (w.alloc (.cells (kCells .i64 la Z).toArray 2))
      have hcp2 := copy_arg (w := w) (w1 := w.alloc (.cells (kCells .i64 la Z).toArray 2)) 23 5 (.int .u8 0) 5 .u8 lb cb Tryd.underlying23 size5' hends ((Fr.refl _ _).alloc _)
      have hw2 := Lib.hid (w2_cells w (kCells .i64 la Z) (kCells .u8 lb E))
      have hFr2 : Hid (Fr (fun _ => False) w ((w.alloc (.cells (kCells .i64 la Z).toArray 2)).alloc (.cells (kCells .u8 lb E).toArray 5))) := ((Fr.refl _ w).alloc _).alloc _
      have hsz : ((w.alloc (.cells (kCells .i64 la Z).toArray 2)).alloc (.cells (kCells .u8 lb E).toArray 5)).heap.size = w.heap.size + 2 := by simp
      have hsz1 : (w.alloc (.cells (kCells .i64 la Z).toArray 2)).heap.size = w.heap.size + 1 := by simp
      rw [hsz1] at hmk2 hcp2
      obtain ⟨W2, hW2⟩ : ∃ W2, W2 = (w.alloc (.cells (kCells .i64 la Z).toArray 2)).alloc (.cells (kCells .u8 lb E).toArray 5) := ⟨_, rfl⟩
      rw [← hW2] at hcp2 hw2 hFr2 hsz
      clear hW2
      obtain ⟨W1, hW1⟩ : ∃ W1, W1 = w.alloc (.cells (kCells .i64 la Z).toArray 2) := ⟨_, rfl⟩
      rw [← hW1] at hcp1 hmk2 hcp2 hsz1
      clear hW1
      obtain ⟨W3, hmk3, h3⟩ := nums_make W2 la (by omega)
      have H3 := Lib.hid h3
      clear h3 hids hends
      rw [hsz] at hmk3
      clear hsz1
      go_enter Tryd.func3, Tryd.ntmps3
      go_upto_region 3 with (go_at_call 4; refine (bytes_any _ _ _ _ _ _ _).mono ?_; rintro e1 w1 ⟨he1 | he1, hw1⟩ <;> (subst he1; have hw1' := hw1.symm; subst hw1'; clear hw1))
      · go_wp2
        go_loopg [9, 10] la (fun gk av iv wr => ∃ (i : Nat) (xs : List Nat), i ≤ la ∧ gk = la - i ∧ iv = .int .i64 (i : Int) ∧ Nums W2 av xs wr ∧ xs.length ≤ i)
        case atStart => exact ⟨0, [], by omega, by omega, rfl, by rw [← hsz]; exact H3.out, by simp⟩
        case round =>
          clear hmk1 hmk2 hmk3 hcp1 hcp2 H3
          obtain ⟨i, xs, hi, rfl, rfl, hN, hlx⟩ := hrel
          have HN := Lib.hid hN
          obtain ⟨gS, cS, rfl, -, -, -, -⟩ := hN.shape
          clear hN
          by_cases hin : i < la
          · have hin' : (i : Int) < (la : Int) := by omega
            have c1 : wr.cell? ⟨w.heap.size, i, none⟩ = some (.int .i64 (Z i)) := (HN.out.fr.cell (p := ⟨w.heap.size, i, none⟩) (by rw [hsz]; show w.heap.size < _; omega) id).trans ((blk_cell hw2.out.1 i).trans (by rw [List.getElem?_toArray]; exact kCells_get hin))
            have hz := HZ.out i hin
            by_cases hpos : 0 ≤ Z i
            · obtain ⟨z, hzz⟩ : ∃ z : Nat, Z i = (z : Int) := ⟨(Z i).toNat, by omega⟩
              rw [hzz] at c1 hz hpos
              have hz63 : z < 9223372036854775808 := by omega
              have hlx' : Hid (xs.length ≤ 65536) := by have : xs.length ≤ 65536 := by omega
                                                        exact this
              have hlx2 := Lib.hid (show (xs ++ [z]).length ≤ i + 1 by simpa using hlx)
              clear hz hzz hlx
              go_wp2_with (at_builtin; refine wpList_appN rfl _ _ rfl (j := z) HN.out hz63 hlx'.out rfl rfl ?_; intro v' w' h'; have H' := Lib.hid h'; clear h')
              go_roundg (la - (i + 1))
              case measure => omega
              case rel => exact ⟨i + 1, _, by omega, rfl, by simp, H'.out, hlx2.out⟩
            · have h1 : decide ((0 : Int) ≤ Z i) = false := decide_eq_false hpos
              have h2 : ((0 : Int) ≤ Z i) = False := eq_false hpos
              have hlx2 : Hid (xs.length ≤ i + 1) := Nat.le_succ_of_le hlx
              clear hz hpos hlx
              go_wp2_with fail
              go_roundg (la - (i + 1))
              case measure => omega
              case rel => exact ⟨i + 1, _, by omega, rfl, by simp, HN.out, hlx2.out⟩
          · have e : la = i := by omega
            subst e
            obtain ⟨gS', cS', hav, hc, h1, h2, hR⟩ := HN.out.shape
            obtain ⟨rfl, rfl⟩ : gS' = gS ∧ cS' = cS := by simpa [eq_comm] using hav
            have HR := Lib.hid hR
            have hE' : Hid (∀ k, k < lb → ∃ e : Nat, e < 256 ∧ wr.cell? ⟨w.heap.size + 1, k, none⟩ = some (.int .u8 (e : Int))) := fun k hk => by
              have h3 := HE.out k hk
              refine ⟨(E k).toNat, by omega, ?_⟩
              rw [Int.toNat_of_nonneg h3.1]
              exact (HN.out.fr.cell (p := ⟨w.heap.size + 1, k, none⟩) (by rw [hsz]; show w.heap.size + 1 < _; omega) id).trans ((blk_cell hw2.out.2 k).trans (by rw [List.getElem?_toArray]; exact kCells_get hk))
            have hFr : Hid (Fr (fun _ => False) w wr) := hFr2.out.trans HN.out.fr
            have hB' : Hid (Below w.heap.size w wr) := hFr.out.below (Nat.le_refl _) (fun _ _ => id)
            have hg' : Hid (w.heap.size + 1 < wr.heap.size) := by have := HN.out.fr.size; rw [hsz] at this; exact this
            have hd' : Hid (w.heap.size + 1 ≠ gS') := by rw [hsz] at h1; intro e; omega
            have hb' : Hid (w.heap.size ≤ gS') := by have : w.heap.size ≤ gS' := by omega
                                                     exact this
            have hs' : Hid (xs.length ≤ 256) := Nat.le_trans hlx hla
            clear hav hc h1 h2 hR hlx HN hFr
            go_upto_region 19 with fail
            exact law_B hs'.out HR.out hlb hE'.out hg'.out hd'.out hb'.out hB'.out Htab.out (by assumption) (by assumption)
      · go_ret
        exact ⟨rfl, hbelow.out⟩
    · have h1 : ((4096 : Int) < (lb : Int)) = True := eq_true (by omega)
      have h2 : decide ((4096 : Int) < (lb : Int)) = true := decide_eq_true (by omega)
      have h3 : ((256 : Int) < (la : Int)) = False := eq_false (by omega)
      have h4 : decide ((256 : Int) < (la : Int)) = false := decide_eq_false (by omega)
      go_enter Tryd.func3, Tryd.ntmps3
      go_upto_region 3 with (go_at_call 4; refine (bytes_any _ _ _ _ _ _ _).mono ?_; rintro e1 w1 ⟨he1 | he1, hw1⟩ <;> (subst he1; have hw1' := hw1.symm; subst hw1'; clear hw1))
      · go_wp2
        go_ret
        exact ⟨rfl, hbelow.out⟩
      · go_ret
        exact ⟨rfl, hbelow.out⟩
  · have h1 : ((256 : Int) < (la : Int)) = True := eq_true (by omega)
    have h2 : decide ((256 : Int) < (la : Int)) = true := decide_eq_true (by omega)
    go_enter Tryd.func3, Tryd.ntmps3
    go_upto_region 3 with (go_at_call 4; refine (bytes_any _ _ _ _ _ _ _).mono ?_; rintro e1 w1 ⟨he1 | he1, hw1⟩ <;> (subst he1; have hw1' := hw1.symm; subst hw1'; clear hw1))
    · go_wp2
      go_ret
      exact ⟨rfl, hbelow.out⟩
    · go_ret
      exact ⟨rfl, hbelow.out⟩
end Go.Proofs.Qxb6003964aDoor
