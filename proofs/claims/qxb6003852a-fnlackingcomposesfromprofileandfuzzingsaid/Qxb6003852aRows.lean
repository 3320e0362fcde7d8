/-
  No cell of these rows narrows 'for every input' (looked for: loops, veiled, ifaces, maps, wideKeys, modest, calm, conditions, laid).
  DERIVED. THE GIVEN ROWS OF THIS SEAT. 3 by the template 'for every input the law returns true; each argument reads behind the call as it read before'; 0 by the template 'total and deterministic' (their statements: Qxb6003852aTotals.lean).
  GIVEN WITH THE SEED: the statements are not yours to turn. If you find one false, say at which input.
  Laid BY PROGRAM, IN A SANDBOX (cutbox-rows.mjs): the forced cells as the released guide's own fill.sh prints them over the translation 69bd8c4d630a8494… (all of the seat's roots in one cut). By AI agents, Wed Nov 11 2026. No macro, syntax, notation, axiom, sorry.
-/
import Derived.Test.Qxb6003852aChecked
import GoSem.Claim
import GoSem.ClaimJoined
import GoSem.ClaimMapViews
import Derived.JoinedTies
import Derived.KernelRfl
namespace Go.Proofs.Qxb6003852a
/- THE CELL 'sum', in the pinned program and in every row, IS THE sha256 OF THE DUMP (.gsa) THAT Qxb6003852aProg.lean LOADS. Nothing in Lean hashes anything: it is a label: what it is worth is what the hold of that sum in a sandbox is worth. -/
noncomputable def Try.pinned : Pinned := { name := "qxb6003852a", sum := "69bd8c4d630a8494fa8db647c3f377bf76f7301256abc64557beca79012f208a", checked := Try.checked }
namespace Rows
def none {H : Type} : Left H := { results := [], args := [] }

/-- 'zzlaws_pkg_hook_g1.FnLackingComposesFromProfileAndFuzzing': WHATEVER THE INPUT: true; the input reads as it did. -/
def fnLackingComposesFromProfileAndFuzzingSpec : ChangeSpec := { name := "fnLackingComposesFromProfileAndFuzzing", fn := fun _ => fun
  | [d1, d2, d3, d4, d5, d6, d7, d8, d9, d10, d11, d12] => { results := [.lit (.bool true)], args := [d1, d2, d3, d4, d5, d6, d7, d8, d9, d10, d11, d12] }
  | _ => none }
def fnLackingComposesFromProfileAndFuzzingRow : OpenClaim := { program := "qxb6003852a", sum := "69bd8c4d630a8494fa8db647c3f377bf76f7301256abc64557beca79012f208a", func := "example.com/shroudpack/shroudpack/zzlaws_pkg_hook_g1.FnLackingComposesFromProfileAndFuzzing", spec := "fnLackingComposesFromProfileAndFuzzing", apart := false }
def FnLackingComposesFromProfileAndFuzzingSaid : Prop := fnLackingComposesFromProfileAndFuzzingRow.holds Try.pinned (OpenSpec.ofChange fnLackingComposesFromProfileAndFuzzingSpec)

/-- ITS FALSE NEIGHBOUR: 'it returns false'. Refute it at one input. -/
def fnLackingComposesFromProfileAndFuzzingWrong : ChangeSpec := { name := "fnLackingComposesFromProfileAndFuzzing", fn := fun _ => fun
  | [d1, d2, d3, d4, d5, d6, d7, d8, d9, d10, d11, d12] => { results := [.lit (.bool false)], args := [d1, d2, d3, d4, d5, d6, d7, d8, d9, d10, d11, d12] }
  | _ => none }
def FnLackingComposesFromProfileAndFuzzingWrongFalsely : Prop := fnLackingComposesFromProfileAndFuzzingRow.holds Try.pinned (OpenSpec.ofChange fnLackingComposesFromProfileAndFuzzingWrong)

/-- 'zzlaws_pkg_publish_g1.FnSumLinesSplitBack': WHATEVER THE INPUT: true; the input reads as it did. -/
def fnSumLinesSplitBackSpec : ChangeSpec := { name := "fnSumLinesSplitBack", fn := fun _ => fun
  | [d1, d2, d3, d4, d5] => { results := [.lit (.bool true)], args := [d1, d2, d3, d4, d5] }
  | _ => none }
def fnSumLinesSplitBackRow : OpenClaim := { program := "qxb6003852a", sum := "69bd8c4d630a8494fa8db647c3f377bf76f7301256abc64557beca79012f208a", func := "example.com/shroudpack/shroudpack/zzlaws_pkg_publish_g1.FnSumLinesSplitBack", spec := "fnSumLinesSplitBack", apart := false }
def FnSumLinesSplitBackSaid : Prop := fnSumLinesSplitBackRow.holds Try.pinned (OpenSpec.ofChange fnSumLinesSplitBackSpec)

/-- ITS FALSE NEIGHBOUR: 'it returns false'. Refute it at one input. -/
def fnSumLinesSplitBackWrong : ChangeSpec := { name := "fnSumLinesSplitBack", fn := fun _ => fun
  | [d1, d2, d3, d4, d5] => { results := [.lit (.bool false)], args := [d1, d2, d3, d4, d5] }
  | _ => none }
def FnSumLinesSplitBackWrongFalsely : Prop := fnSumLinesSplitBackRow.holds Try.pinned (OpenSpec.ofChange fnSumLinesSplitBackWrong)

/-- 'zzlaws_pkg_publish_g1.FnSumLinesInjective': WHATEVER THE INPUT: true; the input reads as it did. -/
def fnSumLinesInjectiveSpec : ChangeSpec := { name := "fnSumLinesInjective", fn := fun _ => fun
  | [d1, d2, d3, d4, d5, d6, d7, d8, d9, d10] => { results := [.lit (.bool true)], args := [d1, d2, d3, d4, d5, d6, d7, d8, d9, d10] }
  | _ => none }
def fnSumLinesInjectiveRow : OpenClaim := { program := "qxb6003852a", sum := "69bd8c4d630a8494fa8db647c3f377bf76f7301256abc64557beca79012f208a", func := "example.com/shroudpack/shroudpack/zzlaws_pkg_publish_g1.FnSumLinesInjective", spec := "fnSumLinesInjective", apart := false }
def FnSumLinesInjectiveSaid : Prop := fnSumLinesInjectiveRow.holds Try.pinned (OpenSpec.ofChange fnSumLinesInjectiveSpec)

/-- ITS FALSE NEIGHBOUR: 'it returns false'. Refute it at one input. -/
def fnSumLinesInjectiveWrong : ChangeSpec := { name := "fnSumLinesInjective", fn := fun _ => fun
  | [d1, d2, d3, d4, d5, d6, d7, d8, d9, d10] => { results := [.lit (.bool false)], args := [d1, d2, d3, d4, d5, d6, d7, d8, d9, d10] }
  | _ => none }
def FnSumLinesInjectiveWrongFalsely : Prop := fnSumLinesInjectiveRow.holds Try.pinned (OpenSpec.ofChange fnSumLinesInjectiveWrong)

end Rows
end Go.Proofs.Qxb6003852a
