import Derived.Test.Qxb6003852aLawPost
import Derived.WalkKit
import Derived.ProofKit
namespace Go.Proofs.Qxb6003852a
open Go.ChangeShapes Go.WideShapes Go.ChangeAt Go.RowKit

theorem ret_bool {a b : Bool} (h : a = b) : Ending.returned (.bool a) = .returned (.bool b) := by rw [h]

/-- A byte of the string is a space. -/
def HasSp (s : ByteArray) : Prop := ∃ i, ∃ h : i < s.size, s[i] = 32
/-- The same as a Bool. -/
def hasSp (s : ByteArray) : Bool := s.data.any (· == 32)
theorem hasSp_true (s : ByteArray) : hasSp s = true ↔ HasSp s := by
  unfold hasSp HasSp
  rw [Array.any_eq_true]
  simp only [beq_iff_eq]
  rfl
theorem hasSp_false (s : ByteArray) : hasSp s = false ↔ ∀ i (h : i < s.size), ¬ s[i] = 32 := by
  rw [← Bool.not_eq_true, hasSp_true]
  unfold HasSp
  exact ⟨fun h i hi e => h ⟨i, hi, e⟩, fun h ⟨i, hi, e⟩ => h i hi e⟩

theorem byte_eq (c : UInt8) : ((c.toNat : Int) == 32) = decide (c = 32) := by
  rw [Bool.eq_iff_iff]; simp
  constructor
  · intro h; exact UInt8.toNat_inj.1 (by simpa using (by omega : c.toNat = 32))
  · rintro rfl; rfl

theorem hasSpace_any (s : ByteArray) (w : World) (hs : s.size ≤ maxLen) :
    Calls Try.prog 13 #[.string s] w fun e w' => e = .returned (.bool (hasSp s)) ∧ w' = w := by
  unfold maxLen at hs
  go_enter Try.func13, Try.ntmps13
  go_wp2
  go_loop [3] (fun i => ∃ k : Nat, k ≤ s.size ∧ i = .int .i64 k ∧ ∀ j (h : j < s.size), j < k → ¬ s[j] = 32) (fun i => s.size - (intOf i).toNat)
  case atStart => exact ⟨0, Nat.zero_le _, rfl, fun j _ h => absurd h (by omega)⟩
  case round =>
    obtain ⟨k, hk, rfl, hno⟩ := hrel
    have Hno : Hid (∀ j (h : j < s.size), j < k → ¬ s[j] = 32) := hno
    clear hno
    by_cases hlt : k < s.size
    · by_cases hsp : s[k] = 32
      · have hb : ((s[k].toNat : Int) == 32) = true := by rw [byte_eq]; simp [hsp]
        have HS : Hid (s[k] = 32) := hsp
        clear hsp
        go_wp2
        go_ret
        exact ⟨ret_bool ((hasSp_true s).2 ⟨k, hlt, HS.out⟩).symm, rfl⟩
      · have hb : ((s[k].toNat : Int) == 32) = false := by rw [byte_eq]; simp [hsp]
        have HS : Hid (¬ s[k] = 32) := hsp
        clear hsp
        go_wp2
        go_round
        case rel => exact ⟨k + 1, by omega, by go_num, fun j h hj => by
          by_cases e : j = k
          · subst e; exact HS.out
          · exact Hno.out j h (by omega)⟩
        case measure => simp [intOf]; omega
    · go_wp2
      go_ret
      exact ⟨ret_bool ((hasSp_false s).2 fun i h => Hno.out i h (by omega)).symm, rfl⟩

/-- The two lines of go.sum. -/
def line1 (m v h : ByteArray) : ByteArray := m ++ { data := #[32] } ++ v ++ { data := #[32] } ++ h
def line2 (m v g : ByteArray) : ByteArray := m ++ { data := #[32] } ++ v ++ { data := #[47, 103, 111, 46, 109, 111, 100, 32] } ++ g

theorem sumLines_any (m v h g : ByteArray) (b : Bool) (w : World) (hm : m.size ≤ 262144) (hv : v.size ≤ 262144) (hh : h.size ≤ 262144) (hg : g.size ≤ 262144) :
    Calls Try.prog 14 #[.agg #[.string m, .string v, .string h, .string g, .bool b]] w fun e w' => e = .returned (.slice (some ⟨w.heap.size + 1, 0, none⟩) 2 2) ∧
      w' = (w.alloc (.cells #[.string m, .string v, .string h, .string g, .bool b] 32)).alloc (.cells #[.string (line1 m v h), .string (line2 m v g)] 9) := by
  go_enter Try.func14, Try.ntmps14
  go_wp2
  go_ret
  exact ⟨rfl, rfl⟩

/-- The pieces and the start of the running piece, behind k bytes. -/
def spl (s : ByteArray) : Nat → List ByteArray × Nat
  | 0 => ([], 0)
  | k + 1 => if s.get! k = 32 then ((spl s k).1 ++ [s.extract (spl s k).2 k], k + 1) else spl s k
/-- All pieces. -/
def pieces (s : ByteArray) : List ByteArray := (spl s s.size).1 ++ [s.extract (spl s s.size).2 s.size]

theorem spl_start (s : ByteArray) (k : Nat) : (spl s k).2 ≤ k := by
  induction k with
  | zero => exact Nat.le_refl _
  | succ k ih =>
    unfold spl
    split
    · exact Nat.le_refl _
    · omega
theorem spl_len (s : ByteArray) (k : Nat) : (spl s k).1.length ≤ k := by
  induction k with
  | zero => exact Nat.le_refl _
  | succ k ih =>
    unfold spl
    split
    · simp; omega
    · omega
theorem get!_eq (s : ByteArray) (k : Nat) (h : k < s.size) : s.get! k = s[k] := by
  show s.data[k]! = s.data[k]
  rw [getElem!_pos]
theorem spl_hit (s : ByteArray) (k : Nat) (h : k < s.size) (e : s[k] = 32) : spl s (k + 1) = ((spl s k).1 ++ [s.extract (spl s k).2 k], k + 1) := by
  rw [spl, get!_eq s k h, if_pos e]
theorem spl_miss (s : ByteArray) (k : Nat) (h : k < s.size) (e : ¬ s[k] = 32) : spl s (k + 1) = spl s k := by
  rw [spl, get!_eq s k h, if_neg e]

/-! The plain law on the pieces. -/
theorem get!_left (a b : ByteArray) (k : Nat) (h : k < a.size) : (a ++ b).get! k = a.get! k := by
  rw [get!_eq (a ++ b) k (by rw [ByteArray.size_append]; omega), get!_eq a k h, ByteArray.getElem_append_left h]
theorem get!_right (a b : ByteArray) (k : Nat) (h : k < b.size) : (a ++ b).get! (a.size + k) = b.get! k := by
  rw [get!_eq (a ++ b) _ (by rw [ByteArray.size_append]; omega), get!_eq b k h, ByteArray.getElem_append_right (by omega)]
  congr 1; omega
theorem ext_left (a b : ByteArray) (i j : Nat) (h : j ≤ a.size) : (a ++ b).extract i j = a.extract i j := by
  rw [ByteArray.extract_append, show j - a.size = 0 by omega, (ByteArray.extract_eq_empty_iff (b := b) (i := i - a.size) (j := 0)).2 (by simp), ByteArray.append_empty]
theorem spl_append (a b : ByteArray) (k : Nat) (h : k ≤ a.size) : spl (a ++ b) k = spl a k := by
  induction k with
  | zero => rfl
  | succ k ih => rw [spl, spl, get!_left a b k (by omega), ih (by omega), ext_left a b _ _ (by omega)]
/-- The state behind the whole of a string. -/
def tail (a : ByteArray) : List ByteArray × Nat := spl a a.size
def sp : ByteArray := { data := #[32] }
theorem tail_free (a b : ByteArray) (hb : ∀ i (h : i < b.size), ¬ b[i] = 32) : tail (a ++ b) = tail a := by
  have : ∀ j, j ≤ b.size → spl (a ++ b) (a.size + j) = spl a a.size := by
    intro j
    induction j with
    | zero => intro _; exact spl_append a b _ (Nat.le_refl _)
    | succ j ih =>
      intro hj
      rw [← Nat.add_assoc, spl, get!_right a b j (by omega), get!_eq b j (by omega), if_neg (hb j (by omega)), ih (by omega)]
  unfold tail
  rw [ByteArray.size_append]
  exact this _ (Nat.le_refl _)
theorem tail_sp (a : ByteArray) : tail (a ++ sp) = ((tail a).1 ++ [a.extract (tail a).2 a.size], a.size + 1) := by
  unfold tail
  rw [ByteArray.size_append, show sp.size = 1 from rfl, spl, show a.size = a.size + 0 from rfl, get!_right a sp 0 (by decide)]
  rw [show sp.get! 0 = 32 from rfl, if_pos rfl, Nat.add_zero, spl_append a sp _ (Nat.le_refl _), ext_left a sp _ _ (Nat.le_refl _)]
theorem pieces_three (x y z : ByteArray) (hx : hasSp x = false) (hy : hasSp y = false) (hz : hasSp z = false) : pieces (x ++ sp ++ y ++ sp ++ z) = [x, y, z] := by
  rw [hasSp_false] at hx hy hz
  have t0 : tail x = ([], 0) := by
    have := tail_free ByteArray.empty x hx
    rwa [ByteArray.empty_append] at this
  have t1 : tail (x ++ sp) = ([x], x.size + 1) := by rw [tail_sp, t0]; simp [ByteArray.extract_zero_size]
  have t2 : tail (x ++ sp ++ y) = ([x], x.size + 1) := by rw [tail_free _ _ hy, t1]
  have t3 : tail (x ++ sp ++ y ++ sp) = ([x, y], (x ++ sp ++ y).size + 1) := by
    rw [tail_sp, t2]
    have : (x ++ sp ++ y).extract (x.size + 1) (x ++ sp ++ y).size = y :=
      ByteArray.extract_append_eq_right (by rw [ByteArray.size_append]; rfl) (by rw [ByteArray.size_append])
    simp only [this]; rfl
  have t4 : tail (x ++ sp ++ y ++ sp ++ z) = ([x, y], (x ++ sp ++ y).size + 1) := by rw [tail_free _ _ hz, t3]
  have e : pieces (x ++ sp ++ y ++ sp ++ z) = (tail (x ++ sp ++ y ++ sp ++ z)).1 ++ [(x ++ sp ++ y ++ sp ++ z).extract (tail (x ++ sp ++ y ++ sp ++ z)).2 (x ++ sp ++ y ++ sp ++ z).size] := rfl
  rw [e, t4]
  have : (x ++ sp ++ y ++ sp ++ z).extract ((x ++ sp ++ y).size + 1) (x ++ sp ++ y ++ sp ++ z).size = z :=
    ByteArray.extract_append_eq_right (by rw [ByteArray.size_append (b := sp)]; rfl) (by rw [ByteArray.size_append])
  simp only [this]; rfl
def gomod : ByteArray := { data := #[47, 103, 111, 46, 109, 111, 100] }
theorem pieces_line1 (m v h : ByteArray) (hm : hasSp m = false) (hv : hasSp v = false) (hh : hasSp h = false) : pieces (line1 m v h) = [m, v, h] := pieces_three m v h hm hv hh
theorem pieces_line2 (m v g : ByteArray) (hm : hasSp m = false) (hv : hasSp v = false) (hg : hasSp g = false) : pieces (line2 m v g) = [m, v ++ gomod, g] := by
  have hv' : hasSp (v ++ gomod) = false := by
    unfold hasSp at hv ⊢
    rw [ByteArray.data_append, Array.any_append, hv]
    simp [gomod]
  have e : line2 m v g = m ++ sp ++ (v ++ gomod) ++ sp ++ g := by
    unfold line2
    rw [← ByteArray.append_assoc (a := m ++ sp), ByteArray.append_assoc (a := m ++ sp ++ v) (b := gomod)]
    rfl
  rw [e]
  exact pieces_three m (v ++ gomod) g hm hv' hg

theorem one_new (w : World) (x : Value) (t : TypeId) : ∀ j u, [x][j]? = some u → (w.alloc (.cells #[x] t)).cell? ((⟨w.heap.size, 0, none⟩ : Addr).add j) = some u := by
  intro j u hj
  match j, hj with
  | 0, hj => simp at hj; subst hj; simp [Addr.add]

theorem Try.info9 : (Try.prog.info? 9).map (fun i => (i.zero, i.size, i.bytes)) = some (some (.string ByteArray.empty), 1, 16) := by kernel_rfl

set_option maxHeartbeats 800000 in
theorem split_any (s : ByteArray) (w : World) (hs : s.size ≤ 1048576) :
    Calls Try.prog 15 #[.string s] w fun e w' => ∃ v, e = .returned v ∧ w'.ownsRow w.heap.size 9 1 v (pieces s).length ((pieces s).map Value.string) ∧ Below w.heap.size w w' := by
  obtain ⟨i0, hi, hz0, hz1, hz2⟩ := info_parts Try.info9
  go_enter Try.func15, Try.ntmps15
  go_wp2
  go_loopw [3, 4, 5] (fun v st i wr => ∃ k : Nat, k ≤ s.size ∧ i = .int .i64 k ∧ st = .int .i64 ((spl s k).2 : Nat) ∧ wr.ownsRow w.heap.size 9 1 v (spl s k).1.length ((spl s k).1.map Value.string) ∧ Below w.heap.size w wr)
    (fun _ _ i _ => s.size - (intOf i).toNat)
  case atStart => exact ⟨0, Nat.zero_le _, rfl, rfl, World.ownsRow_nil _ _ _ _, Below.refl _ _⟩
  case round =>
    obtain ⟨k, hk, rfl, rfl, hown, hb⟩ := hrel
    have h1 := spl_start s k
    have h2 := spl_len s k
    by_cases hlt : k < s.size
    · by_cases hsp : s[k] = 32
      · have HE := spl_hit s k hlt hsp
        have HE : Hid (spl s (k + 1) = ((spl s k).1 ++ [s.extract (spl s k).2 k], k + 1)) := HE
        have hbt : ((s[k].toNat : Int) == 32) = true := by rw [byte_eq]; simp [hsp]
        clear hsp
        go_wp2_with (at_builtin; refine wpList_append_own _ rfl _ _ 22 rfl w.heap.size 9 i0 (.string ByteArray.empty) 1 16 Try.underlying22 hi hz0 hz1 hz2 rfl (by decide) _ _ _ rfl (hown.alloc _) ⟨_, 0, none⟩ 1 1 [.string (s.extract (spl s k).2 k)] rfl rfl ?c1 ?c2 ?c3 ?c4 ?c5 ?_)
        case c1 => exact one_new _ _ _
        case c2 => intro u hu; simp at hu; subst hu; rfl
        case c3 => unfold maxLen; omega
        case c4 => omega
        case c5 => have := hb.size; simp; omega
        intro v' w1 hown' hgrow _
        have hb' : Below w.heap.size w w1 := Below.grown (hb.alloc hb.size _) hgrow (by have := hb.size; simp; omega) (fun g hg => (hown.lt g hg).1)
        clear hgrow hown
        go_wp2
        go_roundw
        case rel => exact ⟨k + 1, by omega, by go_num, by rw [HE.out]; go_num, by rw [HE.out]; simpa using hown', hb'⟩
        case measure => simp [intOf]; omega
      · have HE := spl_miss s k hlt hsp
        have HE : Hid (spl s (k + 1) = spl s k) := HE
        have hbt : ((s[k].toNat : Int) == 32) = false := by rw [byte_eq]; simp [hsp]
        clear hsp
        go_wp2
        go_roundw
        case rel => exact ⟨k + 1, by omega, by go_num, by rw [HE.out], by rw [HE.out]; exact hown, hb⟩
        case measure => simp [intOf]; omega
    · obtain rfl : k = s.size := by omega
      go_wp2_with (at_builtin; refine wpList_append_own _ rfl _ _ 22 rfl w.heap.size 9 i0 (.string ByteArray.empty) 1 16 Try.underlying22 hi hz0 hz1 hz2 rfl (by decide) _ _ _ rfl (hown.alloc _) ⟨_, 0, none⟩ 1 1 [.string (s.extract (spl s s.size).2 s.size)] rfl rfl ?d1 ?d2 ?d3 ?d4 ?d5 ?_)
      case d1 => exact one_new _ _ _
      case d2 => intro u hu; simp at hu; subst hu; rfl
      case d3 => unfold maxLen; omega
      case d4 => omega
      case d5 => have := hb.size; simp; omega
      intro v' w1 hown' hgrow _
      have hb' : Below w.heap.size w w1 := Below.grown (hb.alloc hb.size _) hgrow (by have := hb.size; simp; omega) (fun g hg => (hown.lt g hg).1)
      clear hgrow hown
      go_wp2
      go_ret
      exact ⟨v', rfl, by simpa [pieces] using hown', hb'⟩
end Go.Proofs.Qxb6003852a
