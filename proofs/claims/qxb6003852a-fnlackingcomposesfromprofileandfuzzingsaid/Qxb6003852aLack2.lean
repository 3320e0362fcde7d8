import Derived.Test.Qxb6003852aLack
namespace Go.Proofs.Qxb6003852a
open Go.ChangeShapes Go.WideShapes Go.ChangeAt Go.RowKit

/-- What a compile with a profile lacks; what one for fuzzing lacks. -/
def profS : ByteArray := { data := (([116, 104, 101, 32, 112, 114, 111, 102, 105, 108, 101, 32, 102, 111, 114, 32, 112, 114, 111, 102, 105, 108, 101, 45, 103, 117, 105, 100, 101, 100, 32, 111, 112, 116].append [105, 109, 105, 115, 97, 116, 105, 111, 110, 32, 116, 104, 97, 116, 32, 116, 104, 105, 115, 32, 98, 117, 105, 108, 100, 32, 99, 111, 109, 112, 105, 108, 101, 115, 32]).append ([105, 116, 32, 119, 105, 116, 104, 32, 40, 45, 112, 103, 111, 41, 58, 32, 116, 104, 101, 32, 115, 104, 105, 112, 109, 101, 110, 116, 39, 115, 32, 99, 111, 109].append [112, 105, 108, 101, 100, 32, 102, 111, 114, 109, 32, 105, 115, 32, 111, 112, 116, 105, 109, 105, 115, 101, 100, 32, 119, 105, 116, 104, 111, 117, 116, 32, 111, 110, 101])).toArray }
def fuzzS : ByteArray := { data := (([116, 104, 101, 32, 105, 110, 115, 116, 114, 117, 109, 101, 110, 116, 97, 116, 105, 111, 110, 32, 102, 111, 114, 32, 102, 117, 122, 122, 105, 110, 103, 32, 116, 104, 97].append [116, 32, 116, 104, 105, 115, 32, 98, 117, 105, 108, 100, 32, 99, 111, 109, 112, 105, 108, 101, 115, 32, 105, 116, 32, 119, 105, 116, 104, 32, 40, 103, 111, 32, 116]).append ([101, 115, 116, 32, 45, 102, 117, 122, 122, 41, 58, 32, 116, 104, 101, 32, 102, 117, 122, 122, 101, 114, 32, 100, 111, 101, 115, 32, 110, 111, 116, 32, 115, 101, 101].append [32, 119, 104, 105, 99, 104, 32, 111, 102, 32, 105, 116, 115, 32, 99, 111, 100, 101, 32, 97, 110, 32, 105, 110, 112, 117, 116, 32, 114, 101, 97, 99, 104, 101, 115])).toArray }
def lackL (p f : Bool) : List ByteArray := (if p then [profS] else []) ++ (if f then [fuzzS] else [])

theorem one_newL (w : World) (x x' : Value) (t : TypeId) (n : Nat) (hn : n = w.heap.size) (hx : x' = x) : ∀ j u, [x'][j]? = some u → (w.alloc (.cells #[x] t)).cell? ((⟨n, 0, none⟩ : Addr).add j) = some u := by
  subst hn hx
  intro j u hj
  match j, hj with
  | 0, hj => simp at hj; subst hj; simp [Addr.add]

set_option maxHeartbeats 800000 in
theorem lacking_any (s0 s1 s2 s3 s4 s5 s6 s7 pgo : ByteArray) (fz sh : Bool) (v1 v2 : Value) (w : World) (p : Bool) (hp : pgo.toList.isEmpty = !p) :
    Calls Try.prog 18 #[.agg #[.string s0, .string s1, .string s2, .string s3, .string s4, .string s5, .string s6, .string s7, .string pgo, .bool fz, .bool sh, v1, v2]] w fun e w' =>
      ∃ v, e = .returned v ∧ w'.ownsRow w.heap.size 9 1 v (lackL p fz).length ((lackL p fz).map Value.string) ∧ Below w.heap.size w w' := by
  obtain ⟨i0, hi, hz0, hz1, hz2⟩ := info_parts Try.info9
  have hb0 : ∀ o, Below w.heap.size w (w.alloc o) := fun o => (Below.refl _ _).alloc (Nat.le_refl _) _
  cases p <;> cases fz
  · go_enter Try.func18, Try.ntmps18
    go_wp2
    go_ret
    exact ⟨_, rfl, World.ownsRow_nil _ _ _ _, hb0 _⟩
  · go_enter Try.func18, Try.ntmps18
    go_wp2_with (at_builtin; refine wpList_append_own _ rfl _ _ 22 rfl w.heap.size 9 i0 (.string ByteArray.empty) 1 16 Try.underlying22 hi hz0 hz1 hz2 rfl (by decide) _ _ _ rfl (World.ownsRow_nil _ _ _ _) ⟨_, 0, none⟩ 1 1 [.string fuzzS] rfl rfl ?c1 ?c2 ?c3 ?c4 ?c5 ?_)
    case c1 => exact one_newL _ _ _ _ _ (by simp) rfl
    case c2 => intro u hu; simp at hu; subst hu; rfl
    case c3 => unfold maxLen; omega
    case c4 => omega
    case c5 => simp; omega
    intro v' w1 hown' hgrow _
    have hb' : Below w.heap.size w w1 := Below.grown ((hb0 _).alloc (by simp) _) hgrow (by simp; omega) (fun g hg => by simp [Value.ownBlock] at hg)
    clear hgrow
    go_wp2
    go_ret
    exact ⟨v', rfl, hown', hb'⟩
  · go_enter Try.func18, Try.ntmps18
    go_wp2_with (at_builtin; refine wpList_append_own _ rfl _ _ 22 rfl w.heap.size 9 i0 (.string ByteArray.empty) 1 16 Try.underlying22 hi hz0 hz1 hz2 rfl (by decide) _ _ _ rfl (World.ownsRow_nil _ _ _ _) ⟨_, 0, none⟩ 1 1 [.string profS] rfl rfl ?d1 ?d2 ?d3 ?d4 ?d5 ?_)
    case d1 => exact one_newL _ _ _ _ _ (by simp) rfl
    case d2 => intro u hu; simp at hu; subst hu; rfl
    case d3 => unfold maxLen; omega
    case d4 => omega
    case d5 => simp; omega
    intro v' w1 hown' hgrow _
    have hb' : Below w.heap.size w w1 := Below.grown ((hb0 _).alloc (by simp) _) hgrow (by simp; omega) (fun g hg => by simp [Value.ownBlock] at hg)
    have hfz : w1.cell? ⟨w.heap.size, 9, none⟩ = some (.bool false) := by
      have := hgrow.block w.heap.size (by simp; omega) (by simp [Value.ownBlock])
      rw [blk_cell (this.trans (blk_old (blk_new _ _))) 9]; rfl
    clear hgrow
    go_wp2
    go_ret
    exact ⟨v', rfl, hown', hb'⟩
  · go_enter Try.func18, Try.ntmps18
    go_wp2_with (at_builtin; refine wpList_append_own _ rfl _ _ 22 rfl w.heap.size 9 i0 (.string ByteArray.empty) 1 16 Try.underlying22 hi hz0 hz1 hz2 rfl (by decide) _ _ _ rfl (World.ownsRow_nil _ _ _ _) ⟨_, 0, none⟩ 1 1 [.string profS] rfl rfl ?e1 ?e2 ?e3 ?e4 ?e5 ?_)
    case e1 => exact one_newL _ _ _ _ _ (by simp) rfl
    case e2 => intro u hu; simp at hu; subst hu; rfl
    case e3 => unfold maxLen; omega
    case e4 => omega
    case e5 => simp; omega
    intro v' w1 hown' hgrow _
    have hb' : Below w.heap.size w w1 := Below.grown ((hb0 _).alloc (by simp) _) hgrow (by simp; omega) (fun g hg => by simp [Value.ownBlock] at hg)
    have hfz : w1.cell? ⟨w.heap.size, 9, none⟩ = some (.bool true) := by
      have := hgrow.block w.heap.size (by simp; omega) (by simp [Value.ownBlock])
      rw [blk_cell (this.trans (blk_old (blk_new _ _))) 9]; rfl
    clear hgrow
    go_wp2_with (at_builtin; refine wpList_append_own _ rfl _ _ 22 rfl w.heap.size 9 i0 (.string ByteArray.empty) 1 16 Try.underlying22 hi hz0 hz1 hz2 rfl (by decide) _ _ _ rfl (hown'.alloc _) ⟨_, 0, none⟩ 1 1 [.string fuzzS] rfl rfl ?f1 ?f2 ?f3 ?f4 ?f5 ?_)
    case f1 => exact one_newL _ _ _ _ _ (by simp) rfl
    case f2 => intro u hu; simp at hu; subst hu; rfl
    case f3 => unfold maxLen; omega
    case f4 => omega
    case f5 => have := hb'.size; simp; omega
    intro v2 w2 hown2 hgrow2 _
    have hb2 : Below w.heap.size w w2 := Below.grown (hb'.alloc hb'.size _) hgrow2 (by have := hb'.size; simp; omega) (fun g hg => (hown'.lt g hg).1)
    clear hgrow2
    go_wp2
    go_ret
    exact ⟨v2, rfl, hown2, hb2⟩
end Go.Proofs.Qxb6003852a
