/-
  No cell of these rows narrows 'for every input' (looked for: loops, veiled, ifaces, maps, wideKeys, modest, calm, conditions, laid).
  DERIVED. THE GIVEN ROWS OF THIS SEAT. 3 by the template 'for every input the law returns true; each argument reads behind the call as it read before'; 0 by the template 'total and deterministic' (their statements: Qxb6004012aTotals.lean).
  GIVEN WITH THE SEED: the statements are not yours to turn. If you find one false, say at which input.
  Laid BY PROGRAM, IN A SANDBOX (cutbox-rows.mjs): the forced cells as the released guide's own fill.sh prints them over the translation f2732331e168fca5… (all of the seat's roots in one cut). By AI agents, Wed Nov 11 2026. No macro, syntax, notation, axiom, sorry.
-/
import Derived.Test.Qxb6004012aChecked
import GoSem.Claim
import GoSem.ClaimJoined
import GoSem.ClaimMapViews
import Derived.JoinedTies
import Derived.KernelRfl
namespace Go.Proofs.Qxb6004012a
/- THE CELL 'sum', in the pinned program and in every row, IS THE sha256 OF THE DUMP (.gsa) THAT Qxb6004012aProg.lean LOADS. Nothing in Lean hashes anything: it is a label: what it is worth is what the hold of that sum in a sandbox is worth. -/
noncomputable def Try.pinned : Pinned := { name := "qxb6004012a", sum := "f2732331e168fca52b2c2694bb0a1cc69fcf2c1e66bbeb7e90427389e0b134c1", checked := Try.checked }
namespace Rows
def none {H : Type} : Left H := { results := [], args := [] }

/-- 'zzlaws_pkg_check_b1.FnClassRealtimeShiftsByFixedStep': WHATEVER THE INPUT: true; the input reads as it did. -/
def fnClassRealtimeShiftsByFixedStepSpec : ChangeSpec := { name := "fnClassRealtimeShiftsByFixedStep", fn := fun _ => fun
  | [d] => { results := [.lit (.bool true)], args := [d] }
  | _ => none }
def fnClassRealtimeShiftsByFixedStepRow : OpenClaim := { program := "qxb6004012a", sum := "f2732331e168fca52b2c2694bb0a1cc69fcf2c1e66bbeb7e90427389e0b134c1", func := "example.com/faultline/faultline/zzlaws_pkg_check_b1.FnClassRealtimeShiftsByFixedStep", spec := "fnClassRealtimeShiftsByFixedStep", apart := false }
def FnClassRealtimeShiftsByFixedStepSaid : Prop := fnClassRealtimeShiftsByFixedStepRow.holds Try.pinned (OpenSpec.ofChange fnClassRealtimeShiftsByFixedStepSpec)

/-- ITS FALSE NEIGHBOUR: 'it returns false'. Refute it at one input. -/
def fnClassRealtimeShiftsByFixedStepWrong : ChangeSpec := { name := "fnClassRealtimeShiftsByFixedStep", fn := fun _ => fun
  | [d] => { results := [.lit (.bool false)], args := [d] }
  | _ => none }
def FnClassRealtimeShiftsByFixedStepWrongFalsely : Prop := fnClassRealtimeShiftsByFixedStepRow.holds Try.pinned (OpenSpec.ofChange fnClassRealtimeShiftsByFixedStepWrong)

/-- 'zzlaws_pkg_check_b1.FnClassGrowsWithDependencies': WHATEVER THE INPUT: true; the input reads as it did. -/
def fnClassGrowsWithDependenciesSpec : ChangeSpec := { name := "fnClassGrowsWithDependencies", fn := fun _ => fun
  | [d1, d2] => { results := [.lit (.bool true)], args := [d1, d2] }
  | _ => none }
def fnClassGrowsWithDependenciesRow : OpenClaim := { program := "qxb6004012a", sum := "f2732331e168fca52b2c2694bb0a1cc69fcf2c1e66bbeb7e90427389e0b134c1", func := "example.com/faultline/faultline/zzlaws_pkg_check_b1.FnClassGrowsWithDependencies", spec := "fnClassGrowsWithDependencies", apart := false }
def FnClassGrowsWithDependenciesSaid : Prop := fnClassGrowsWithDependenciesRow.holds Try.pinned (OpenSpec.ofChange fnClassGrowsWithDependenciesSpec)

/-- ITS FALSE NEIGHBOUR: 'it returns false'. Refute it at one input. -/
def fnClassGrowsWithDependenciesWrong : ChangeSpec := { name := "fnClassGrowsWithDependencies", fn := fun _ => fun
  | [d1, d2] => { results := [.lit (.bool false)], args := [d1, d2] }
  | _ => none }
def FnClassGrowsWithDependenciesWrongFalsely : Prop := fnClassGrowsWithDependenciesRow.holds Try.pinned (OpenSpec.ofChange fnClassGrowsWithDependenciesWrong)

/-- 'zzlaws_pkg_check_b1.FnClassIgnoresWhatNoLongerCounts': WHATEVER THE INPUT: true; the input reads as it did. -/
def fnClassIgnoresWhatNoLongerCountsSpec : ChangeSpec := { name := "fnClassIgnoresWhatNoLongerCounts", fn := fun _ => fun
  | [d] => { results := [.lit (.bool true)], args := [d] }
  | _ => none }
def fnClassIgnoresWhatNoLongerCountsRow : OpenClaim := { program := "qxb6004012a", sum := "f2732331e168fca52b2c2694bb0a1cc69fcf2c1e66bbeb7e90427389e0b134c1", func := "example.com/faultline/faultline/zzlaws_pkg_check_b1.FnClassIgnoresWhatNoLongerCounts", spec := "fnClassIgnoresWhatNoLongerCounts", apart := false }
def FnClassIgnoresWhatNoLongerCountsSaid : Prop := fnClassIgnoresWhatNoLongerCountsRow.holds Try.pinned (OpenSpec.ofChange fnClassIgnoresWhatNoLongerCountsSpec)

/-- ITS FALSE NEIGHBOUR: 'it returns false'. Refute it at one input. -/
def fnClassIgnoresWhatNoLongerCountsWrong : ChangeSpec := { name := "fnClassIgnoresWhatNoLongerCounts", fn := fun _ => fun
  | [d] => { results := [.lit (.bool false)], args := [d] }
  | _ => none }
def FnClassIgnoresWhatNoLongerCountsWrongFalsely : Prop := fnClassIgnoresWhatNoLongerCountsRow.holds Try.pinned (OpenSpec.ofChange fnClassIgnoresWhatNoLongerCountsWrong)

end Rows
end Go.Proofs.Qxb6004012a
