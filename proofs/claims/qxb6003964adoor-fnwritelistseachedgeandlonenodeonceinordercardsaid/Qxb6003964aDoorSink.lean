/-
  The law's own writer (zzSink): its Write, taking and refusing.
-/
import Derived.Test.Qxb6003964aDoorApp
import Derived.Deep.RegionWith
import Derived.Deep.QuietTactic
import Derived.BigQuiet
import Derived.BigRegion
import Derived.WalkSpells
namespace Go.Proofs.Qxb6003964aDoor
open Go.ChangeShapes Go.WideShapes Go.ChangeAt Go.RowKit
open Go.Lib (byteCells)

/-- The bytes bs lie at ad. -/
def BytesAt (w : World) (ad : Addr) (bs : List UInt8) : Prop := ∀ j u, (byteCells bs)[j]? = some u → w.cell? (ad.add j) = some u

theorem byteCells_len (bs : List UInt8) : (byteCells bs).length = bs.length := by simp [byteCells]
theorem byteCells_append (a b : List UInt8) : byteCells (a ++ b) = byteCells a ++ byteCells b := by simp [byteCells]
theorem byteCells_one (bs : List UInt8) : ∀ u ∈ byteCells bs, u.oneCell' = true := by
  intro u hu; simp only [byteCells, List.mem_map] at hu; obtain ⟨b, _, rfl⟩ := hu; rfl

/-- The sink in block K has kept 'got'. -/
structure SinkAt (B K : Nat) (fail : Bool) (vg : Value) (got : List UInt8) (w : World) : Prop where
  hk : w.heap[K]? = some (.cells #[vg, .bool fail] 32 (0, 0))
  own : w.ownsRow B 5 1 vg got.length (byteCells got)
  kB : K < B
  sz : B ≤ w.heap.size

def SinkPost (B K : Nat) (vg : Value) (got bs : List UInt8) (w : World) (e : Ending) (w' : World) : Prop :=
  e = .returned (.tuple #[.int .i64 (bs.length : Int), .nilIface]) ∧ ∃ vg', SinkAt B K false vg' (got ++ bs) w' ∧ Near w vg vg' ∧ Fr (fun k => k = K ∨ vg.ownBlock = some k) w w'

set_option maxHeartbeats 1000000 in
theorem sink_ok {B K : Nat} {vg : Value} {got : List UInt8} (bs : List UInt8) (ad : Addr) (c : Nat) (w : World) (h : SinkAt B K false vg got w) (hb : BytesAt w ad bs) (hpos : 0 < bs.length) (hlim : got.length + bs.length ≤ 1073741824) :
    Calls Tryd.prog 46 #[.pointer (some ⟨K, 0, none⟩), .slice (some ad) bs.length c] w fun e w' => SinkPost B K vg got bs w e w' := by
  obtain ⟨i0, hi, hz0, hz1, hz2⟩ := info_parts Tryd.info5
  have c0 : w.cell? ⟨K, 0, none⟩ = some vg := (blk_cell h.hk 0).trans rfl
  have c1 : w.cell? ⟨K, 1, none⟩ = some (.bool false) := (blk_cell h.hk 1).trans rfl
  have H := Lib.hid h
  have HB := Lib.hid hb
  have hsz := h.sz
  clear h hb
  go_enter Tryd.func46, Tryd.ntmps46
  go_wp2_with (at_builtin; refine wpList_append_two _ rfl _ _ 23 rfl B 5 i0 (.int .u8 0) 1 Tryd.underlying23 hi hz0 hz1 hz2 rfl _ _ _ rfl (by exact H.out.own) ad bs.length c (byteCells bs) rfl ?c0 ?c1 ?c2 hpos ?c3 ?c4 hsz ?_)
  case c0 => exact byteCells_len bs
  case c1 => exact HB.out
  case c2 => exact byteCells_one bs
  case c3 => unfold maxLen; omega
  case c4 => omega
  intro v' w1 hown' hgrow hnear _
  obtain ⟨a1, k1, hv1⟩ := own_shape hown'
  subst hv1
  have hne : vg.ownBlock ≠ some K := fun e => by have := (H.out.own.lt K e).1; have := H.out.kB; omega
  have hk1 : w1.heap[K]? = some (.cells #[vg, .bool false] 32 (0, 0)) := (hgrow.block K (blk_lt H.out.hk) (fun e => hne e.symm)).trans H.out.hk
  have d0 : w1.cell? ⟨K, 0, none⟩ = some vg := (blk_cell hk1 0).trans rfl
  have f0 : w1.frozen? ⟨K, 0, none⟩ = false := blk_free hk1 0
  have HP : Hid (SinkPost B K vg got bs w (.returned (.tuple #[.int .i64 (bs.length : Int), .nilIface])) (w1.setCell ⟨K, 0, none⟩ (.slice a1 (got.length + bs.length) k1))) := by
    refine ⟨rfl, .slice a1 (got.length + bs.length) k1, ⟨by rw [blk_set hk1 0]; rfl, ?_, H.out.kB, by rw [size_set]; have := hgrow.size; omega⟩, hnear, ?_⟩
    · rw [List.length_append, byteCells_append]
      exact ownsRow_setCell_below hown' H.out.kB _
    · exact ((Fr.refl _ w).grown hgrow (fun k hk _ => .inr hk)).setCell _ _ (fun _ => .inl rfl)
  clear H HB hown' hgrow hnear hk1 hne
  go_wp2
  go_ret2
  exact HP.out

/-- A refusing sink answers an error that is not nil and keeps nothing. -/
def FailPost (K : Nat) (vg : Value) (w : World) (e : Ending) (w' : World) : Prop :=
  ∃ a, e = .returned (.tuple #[.int .i64 0, .iface 75 (.pointer (some a))]) ∧ w'.heap[K]? = some (.cells #[vg, .bool true] 32 (0, 0)) ∧ Fr (fun _ => False) w w'

theorem sink_fail {B K : Nat} {vg : Value} {got : List UInt8} (p : Value) (w : World) (h : SinkAt B K true vg got w) :
    Calls Tryd.prog 46 #[.pointer (some ⟨K, 0, none⟩), p] w fun e w' => FailPost K vg w e w' := by
  have c1 : w.cell? ⟨K, 1, none⟩ = some (.bool true) := (blk_cell h.hk 1).trans rfl
  have HP : ∀ o, Hid (FailPost K vg w (.returned (.tuple #[.int .i64 0, .iface 75 (.pointer (some ⟨w.heap.size, 0, none⟩))])) (w.alloc o)) := fun o => ⟨_, rfl, blk_old h.hk, (Fr.refl _ w).alloc o⟩
  clear h
  go_enter Tryd.func46, Tryd.ntmps46
  go_wp2
  go_ret2
  exact (HP _).out
end Go.Proofs.Qxb6003964aDoor
