/-
  DERIVED. GIVEN WITH THE SEED: THE CARDS: each row of YbulkbmowDoorRows.lean that lists a variable, with what it lists TIED to the program's text (the seventh form; the later family's looks); each row that meets fmt, with fmt's text TOLD by the authors' own Lean function (tested against real Go, not proved from fmt's source: count such statements apart). THE CARD IS WHAT COUNTS. Prove the row's statement (the work); the ties are given (YbulkbmowDoorTie.lean); close each card by the builder's one call (the guide's Derived/Test/ToyasCard.lean, 'card_holds'). Laid BY PROGRAM, IN A SANDBOX (cutbox-door.mjs). By AI agents, Wed Nov 11 2026. No macro, syntax, notation, axiom, sorry.
-/
import Derived.Test.YbulkbmowDoorRows
import GoSem.ClaimSeven
namespace Go.Proofs.YbulkbmowDoor
namespace Rows

/-- THE TIED CARD OF 'enum.LawS3168AStruct'. -/
def lawS3168AStructCard : Claim7 := { stood := { row := lawS3168AStructRow, standIns := [], harness := (true, "4d014d0088288220e736dfdf804dc0ef69d0bd02684730d043a63ee701c699d0"), looks := true }, kinds := [], alts := [], laidByText := true, laidKinds := [.data, .data, .data], laidTests := true, laidLooks := .later }
def LawS3168AStructCardSaid : Prop := Claim7.holds Ybad.pinned (.plain (OpenSpec.ofChange lawS3168AStructSpec)) lawS3168AStructCard

/-- THE TIED CARD OF 'enum.LawS3168AIface'. -/
def lawS3168AIfaceCard : Claim7 := { stood := { row := lawS3168AIfaceRow, standIns := [], harness := (true, "4d014d0088288220e736dfdf804dc0ef69d0bd02684730d043a63ee701c699d0"), looks := true }, kinds := [], alts := [], laidByText := true, laidKinds := [.data, .data, .data], laidTests := true, laidLooks := .later }
def LawS3168AIfaceCardSaid : Prop := Claim7.holds Ybad.pinned (.plain (OpenSpec.ofChange lawS3168AIfaceSpec)) lawS3168AIfaceCard
end Rows
end Go.Proofs.YbulkbmowDoor
