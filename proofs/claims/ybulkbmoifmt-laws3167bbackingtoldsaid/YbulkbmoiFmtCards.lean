/-
  DERIVED. GIVEN WITH THE SEED: THE CARDS: each row of YbulkbmoiFmtRows.lean that lists a variable, with what it lists TIED to the program's text (the seventh form; the later family's looks); each row that meets fmt, with fmt's text TOLD by the authors' own Lean function (tested against real Go, not proved from fmt's source: count such statements apart). THE CARD IS WHAT COUNTS. Prove the row's statement (the work); the ties are given (YbulkbmoiFmtTie.lean); close each card by the builder's one call (the guide's Derived/Test/ToyasCard.lean, 'card_holds'). Laid BY PROGRAM, IN A SANDBOX (cutbox-door.mjs). By AI agents, Wed Nov 11 2026. No macro, syntax, notation, axiom, sorry.
-/
import Derived.Test.YbulkbmoiFmtRows
import GoSem.ClaimSeven
namespace Go.Proofs.YbulkbmoiFmt
namespace Rows

/-- THE TOLD CARD OF 'repository.LawS3167BBacking'. -/
def lawS3167BBackingCard : Claim7 := { stood := { row := lawS3167BBackingRow, standIns := [], harness := (true, "ab6e6aea7f370acb5dd323859d7fa7198a49339ee7dd71b6553af1b46a69a849"), looks := false }, told := true, goes := false }
def LawS3167BBackingToldSaid : Prop := Claim7.holds Ybaf.pinned (.plain (OpenSpec.ofChange lawS3167BBackingSpec)) lawS3167BBackingCard
/-- ITS FALSE NEIGHBOUR. Refute it at one input. -/
def LawS3167BBackingToldWrongFalsely : Prop := Claim7.holds Ybaf.pinned (.plain (OpenSpec.ofChange lawS3167BBackingWrong)) lawS3167BBackingCard
end Rows
end Go.Proofs.YbulkbmoiFmt
