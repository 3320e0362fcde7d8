/-
  bufio.NewWriter over the law's sink.
-/
import Derived.Test.Qxb6003964aDoorBw2
import Derived.Deep.OwnRows
namespace Go.Proofs.Qxb6003964aDoor
open Go.ChangeShapes Go.WideShapes Go.ChangeAt Go.RowKit
open Go.Lib (byteCells)
variable {B P Q K : Nat} {err vg : Value} {pend got : List UInt8} {w : World}

theorem no_writer (a : Addr) (w : World) : (Instr.typeAssert (.iface 30 (.pointer (some a))) 42 43 true).run Tryd.prog w = .ok (.tuple #[.pointer none, .bool false]) w := by kernel_rfl
theorem info5z : (Tryd.prog.info? 5).map (fun i => (i.zero, i.size, i.bytes)) = some (some (.int .u8 0), 1, 1) := by kernel_rfl
theorem make_bytes (n : Nat) (hn : n ≤ 65536) (w : World) : (Instr.makeSlice 23 (.int .i64 (n : Int)) (.int .i64 (n : Int))).run Tryd.prog w = .ok (.slice (some ⟨w.heap.size, 0, none⟩) n n) (w.alloc (.cells (madeCells #[.int .u8 0] n) 5)) :=
  run_make_row' (P := Tryd.prog) 23 5 (.int .u8 0) 1 Tryd.underlying23 info5z rfl .i64 .i64 n (by omega) (by omega) w

def NewPost (K : Nat) (fail : Bool) (w : World) (e : Ending) (w' : World) : Prop :=
  e = .returned (.pointer (some ⟨w.heap.size + 1, 0, none⟩)) ∧ BwAt (w.heap.size + 2) (w.heap.size + 1) w.heap.size K fail .nilIface [] [] (.slice none 0 0) w' ∧ Fr (fun _ => False) w w' ∧ w'.heap.size = w.heap.size + 2

set_option maxRecDepth 100000 in
set_option maxHeartbeats 4000000 in
theorem newSize_any {fail : Bool} (hk : w.heap[K]? = some (.cells #[.slice none 0 0, .bool fail] 32 (0, 0))) :
    Calls Tryd.prog 15 #[.iface 30 (.pointer (some ⟨K, 0, none⟩)), .int .i64 4096] w fun e w' => NewPost K fail w e w' := by
  have hta := no_writer ⟨K, 0, none⟩ w
  have hmk := make_bytes 4096 (by omega) w
  have hmk : (Instr.makeSlice 23 (.int .i64 4096) (.int .i64 4096)).run Tryd.prog w = .ok (.slice (some ⟨w.heap.size, 0, none⟩) 4096 4096) (w.alloc (.cells (madeCells #[.int .u8 0] 4096) 5)) := hmk
  have hzs : (madeCells #[Value.int .u8 0] 4096).size = 4096 := by simp [madeCells]
  generalize madeCells #[Value.int .u8 0] 4096 = zb at hmk hzs
  have Hk := Lib.hid hk
  clear hk
  go_enter Tryd.func15, Tryd.ntmps15
  go_wp2
  go_ret
  have hkl := blk_lt Hk.out
  refine ⟨rfl, ⟨⟨blk_old (blk_old Hk.out), ⟨rfl, .inl ⟨rfl, rfl⟩⟩, by omega, by simp⟩, ?_, ⟨zb, ?_, hzs, rfl⟩, by simp, by omega, by omega, by omega, by omega, by omega⟩, ((Fr.refl _ _).alloc _).alloc _, by simp⟩
  · have := blk_new (w.alloc (Obj.cells zb 5)) (.cells #[.nilIface, .slice (some ⟨w.heap.size, 0, none⟩) 4096 4096, .int .i64 0, .iface 30 (.pointer (some ⟨K, 0, none⟩))] 55 (0, 0))
    simpa using this
  · exact blk_old (blk_new w _)

theorem new_any {fail : Bool} (hk : w.heap[K]? = some (.cells #[.slice none 0 0, .bool fail] 32 (0, 0))) :
    Calls Tryd.prog 9 #[.iface 30 (.pointer (some ⟨K, 0, none⟩))] w fun e w' => NewPost K fail w e w' := by
  have Hk := Lib.hid hk
  clear hk
  go_enter Tryd.func9, Tryd.ntmps9
  go_wp2_with (go_at_call 15; refine (newSize_any Hk.out).mono ?_; rintro e w' ⟨rfl, h⟩; have h := Lib.hid h)
  go_ret
  exact ⟨rfl, h.out⟩
end Go.Proofs.Qxb6003964aDoor
