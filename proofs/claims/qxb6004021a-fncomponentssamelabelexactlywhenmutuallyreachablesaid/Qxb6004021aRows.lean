/-
  No cell of these rows narrows 'for every input' (looked for: loops, veiled, ifaces, maps, wideKeys, modest, calm, conditions, laid).
  DERIVED. THE GIVEN ROWS OF THIS SEAT. 4 by the template 'for every input the law returns true; each argument reads behind the call as it read before'; 0 by the template 'total and deterministic' (their statements: Qxb6004021aTotals.lean).
  GIVEN WITH THE SEED: the statements are not yours to turn. If you find one false, say at which input.
  Laid BY PROGRAM, IN A SANDBOX (cutbox-rows.mjs): the forced cells as the released guide's own fill.sh prints them over the translation f273399fb08725bc… (all of the seat's roots in one cut). By AI agents, Wed Nov 11 2026. No macro, syntax, notation, axiom, sorry.
-/
import Derived.Test.Qxb6004021aChecked
import GoSem.Claim
import GoSem.ClaimJoined
import GoSem.ClaimMapViews
import Derived.JoinedTies
import Derived.KernelRfl
namespace Go.Proofs.Qxb6004021a
/- THE CELL 'sum', in the pinned program and in every row, IS THE sha256 OF THE DUMP (.gsa) THAT Qxb6004021aProg.lean LOADS. Nothing in Lean hashes anything: it is a label: what it is worth is what the hold of that sum in a sandbox is worth. -/
noncomputable def Try.pinned : Pinned := { name := "qxb6004021a", sum := "f273399fb08725bc4888d4d4ed0b13b48a54c5667150906f05ef63b9cbf19a1d", checked := Try.checked }
namespace Rows
def none {H : Type} : Left H := { results := [], args := [] }

/-- 'zzlaws_schedule_b1.FnEscapeItemEscapesByteByByte': WHATEVER THE INPUT: true; the input reads as it did. -/
def fnEscapeItemEscapesByteByByteSpec : ChangeSpec := { name := "fnEscapeItemEscapesByteByByte", fn := fun _ => fun
  | [d1, d2] => { results := [.lit (.bool true)], args := [d1, d2] }
  | _ => none }
def fnEscapeItemEscapesByteByByteRow : OpenClaim := { program := "qxb6004021a", sum := "f273399fb08725bc4888d4d4ed0b13b48a54c5667150906f05ef63b9cbf19a1d", func := "example.com/interleave/interleave/zzlaws_schedule_b1.FnEscapeItemEscapesByteByByte", spec := "fnEscapeItemEscapesByteByByte", inPlace := ["internal/bytealg.IndexByteString", "internal/abi.NoEscape"], unfollowed := true, recurses := true, apart := false }
def FnEscapeItemEscapesByteByByteSaid : Prop := fnEscapeItemEscapesByteByByteRow.holds Try.pinned (OpenSpec.ofChange fnEscapeItemEscapesByteByByteSpec)

/-- ITS FALSE NEIGHBOUR: 'it returns false'. Refute it at one input. -/
def fnEscapeItemEscapesByteByByteWrong : ChangeSpec := { name := "fnEscapeItemEscapesByteByByte", fn := fun _ => fun
  | [d1, d2] => { results := [.lit (.bool false)], args := [d1, d2] }
  | _ => none }
def FnEscapeItemEscapesByteByByteWrongFalsely : Prop := fnEscapeItemEscapesByteByByteRow.holds Try.pinned (OpenSpec.ofChange fnEscapeItemEscapesByteByByteWrong)

/-- 'zzlaws_schedule_b1.FnComponentsSameLabelExactlyWhenMutuallyReachable': WHATEVER THE INPUT: true; the input reads as it did. -/
def fnComponentsSameLabelExactlyWhenMutuallyReachableSpec : ChangeSpec := { name := "fnComponentsSameLabelExactlyWhenMutuallyReachable", fn := fun _ => fun
  | [d] => { results := [.lit (.bool true)], args := [d] }
  | _ => none }
def fnComponentsSameLabelExactlyWhenMutuallyReachableRow : OpenClaim := { program := "qxb6004021a", sum := "f273399fb08725bc4888d4d4ed0b13b48a54c5667150906f05ef63b9cbf19a1d", func := "example.com/interleave/interleave/zzlaws_schedule_b1.FnComponentsSameLabelExactlyWhenMutuallyReachable", spec := "fnComponentsSameLabelExactlyWhenMutuallyReachable", unfollowed := true, recurses := true, apart := false }
def FnComponentsSameLabelExactlyWhenMutuallyReachableSaid : Prop := fnComponentsSameLabelExactlyWhenMutuallyReachableRow.holds Try.pinned (OpenSpec.ofChange fnComponentsSameLabelExactlyWhenMutuallyReachableSpec)

/-- ITS FALSE NEIGHBOUR: 'it returns false'. Refute it at one input. -/
def fnComponentsSameLabelExactlyWhenMutuallyReachableWrong : ChangeSpec := { name := "fnComponentsSameLabelExactlyWhenMutuallyReachable", fn := fun _ => fun
  | [d] => { results := [.lit (.bool false)], args := [d] }
  | _ => none }
def FnComponentsSameLabelExactlyWhenMutuallyReachableWrongFalsely : Prop := fnComponentsSameLabelExactlyWhenMutuallyReachableRow.holds Try.pinned (OpenSpec.ofChange fnComponentsSameLabelExactlyWhenMutuallyReachableWrong)

/-- 'zzlaws_schedule_b1.FnComponentsLabelsNeverRiseAlongAnEdge': WHATEVER THE INPUT: true; the input reads as it did. -/
def fnComponentsLabelsNeverRiseAlongAnEdgeSpec : ChangeSpec := { name := "fnComponentsLabelsNeverRiseAlongAnEdge", fn := fun _ => fun
  | [d] => { results := [.lit (.bool true)], args := [d] }
  | _ => none }
def fnComponentsLabelsNeverRiseAlongAnEdgeRow : OpenClaim := { program := "qxb6004021a", sum := "f273399fb08725bc4888d4d4ed0b13b48a54c5667150906f05ef63b9cbf19a1d", func := "example.com/interleave/interleave/zzlaws_schedule_b1.FnComponentsLabelsNeverRiseAlongAnEdge", spec := "fnComponentsLabelsNeverRiseAlongAnEdge", unfollowed := true, recurses := true, apart := false }
def FnComponentsLabelsNeverRiseAlongAnEdgeSaid : Prop := fnComponentsLabelsNeverRiseAlongAnEdgeRow.holds Try.pinned (OpenSpec.ofChange fnComponentsLabelsNeverRiseAlongAnEdgeSpec)

/-- ITS FALSE NEIGHBOUR: 'it returns false'. Refute it at one input. -/
def fnComponentsLabelsNeverRiseAlongAnEdgeWrong : ChangeSpec := { name := "fnComponentsLabelsNeverRiseAlongAnEdge", fn := fun _ => fun
  | [d] => { results := [.lit (.bool false)], args := [d] }
  | _ => none }
def FnComponentsLabelsNeverRiseAlongAnEdgeWrongFalsely : Prop := fnComponentsLabelsNeverRiseAlongAnEdgeRow.holds Try.pinned (OpenSpec.ofChange fnComponentsLabelsNeverRiseAlongAnEdgeWrong)

/-- 'zzlaws_schedule_b1.FnComponentsIgnoreSelfLoopsAndRepeatedEdges': WHATEVER THE INPUT: true; the input reads as it did. -/
def fnComponentsIgnoreSelfLoopsAndRepeatedEdgesSpec : ChangeSpec := { name := "fnComponentsIgnoreSelfLoopsAndRepeatedEdges", fn := fun _ => fun
  | [d] => { results := [.lit (.bool true)], args := [d] }
  | _ => none }
def fnComponentsIgnoreSelfLoopsAndRepeatedEdgesRow : OpenClaim := { program := "qxb6004021a", sum := "f273399fb08725bc4888d4d4ed0b13b48a54c5667150906f05ef63b9cbf19a1d", func := "example.com/interleave/interleave/zzlaws_schedule_b1.FnComponentsIgnoreSelfLoopsAndRepeatedEdges", spec := "fnComponentsIgnoreSelfLoopsAndRepeatedEdges", unfollowed := true, recurses := true, apart := false }
def FnComponentsIgnoreSelfLoopsAndRepeatedEdgesSaid : Prop := fnComponentsIgnoreSelfLoopsAndRepeatedEdgesRow.holds Try.pinned (OpenSpec.ofChange fnComponentsIgnoreSelfLoopsAndRepeatedEdgesSpec)

/-- ITS FALSE NEIGHBOUR: 'it returns false'. Refute it at one input. -/
def fnComponentsIgnoreSelfLoopsAndRepeatedEdgesWrong : ChangeSpec := { name := "fnComponentsIgnoreSelfLoopsAndRepeatedEdges", fn := fun _ => fun
  | [d] => { results := [.lit (.bool false)], args := [d] }
  | _ => none }
def FnComponentsIgnoreSelfLoopsAndRepeatedEdgesWrongFalsely : Prop := fnComponentsIgnoreSelfLoopsAndRepeatedEdgesRow.holds Try.pinned (OpenSpec.ofChange fnComponentsIgnoreSelfLoopsAndRepeatedEdgesWrong)

end Rows
end Go.Proofs.Qxb6004021a
