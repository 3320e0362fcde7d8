/-
  DERIVED. GIVEN WITH THE SEED: THE CARDS: each row of Qxb6003964aDoorRows.lean that lists a variable, with what it lists TIED to the program's text (the seventh form; the later family's looks); each row that meets fmt, with fmt's text TOLD by the authors' own Lean function (tested against real Go, not proved from fmt's source: count such statements apart). THE CARD IS WHAT COUNTS. Prove the row's statement (the work); the ties are given (Qxb6003964aDoorTie.lean); close each card by the builder's one call (the guide's Derived/Test/ToyasCard.lean, 'card_holds'). Laid BY PROGRAM, IN A SANDBOX (cutbox-door.mjs). By AI agents, Wed Nov 11 2026. No macro, syntax, notation, axiom, sorry.
-/
import Derived.Test.Qxb6003964aDoorRows
import GoSem.ClaimSeven
namespace Go.Proofs.Qxb6003964aDoor
namespace Rows

/-- THE TIED CARD OF 'zzlaws_graph_g1.FnWriteListsEachEdgeAndLoneNodeOnceInOrder'. -/
def fnWriteListsEachEdgeAndLoneNodeOnceInOrderCard : Claim7 := { stood := { row := fnWriteListsEachEdgeAndLoneNodeOnceInOrderRow, standIns := [], harness := (true, "49558fedc1c2cc635e9b462fd5d7dfb71773c14f0b8978decd07aea57b5b423a"), looks := true }, kinds := [], alts := [], laidByText := true, laidKinds := [.data, .data, .data, .sentinel], laidTests := true, laidLooks := .later }
def FnWriteListsEachEdgeAndLoneNodeOnceInOrderCardSaid : Prop := Claim7.holds Tryd.pinned (.plain (OpenSpec.ofChange fnWriteListsEachEdgeAndLoneNodeOnceInOrderSpec)) fnWriteListsEachEdgeAndLoneNodeOnceInOrderCard
end Rows
end Go.Proofs.Qxb6003964aDoor
