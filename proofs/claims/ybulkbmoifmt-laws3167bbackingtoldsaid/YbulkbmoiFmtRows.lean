/-
  No cell of these rows narrows 'for every input' (looked for: loops, veiled, ifaces, maps, wideKeys, modest, calm, conditions, laid).
  DERIVED. THE GIVEN ROWS OF THIS SEAT. 1 by the template 'for every input the law returns true; each argument reads behind the call as it read before'; 0 by the template 'total and deterministic' (their statements: YbulkbmoiFmtTotals.lean).
  GIVEN WITH THE SEED: the statements are not yours to turn. If you find one false, say at which input.
  Laid BY PROGRAM, IN A SANDBOX (cutbox-rows.mjs): the forced cells as the released guide's own fill.sh prints them over the translation bfb16b375614c7ec… (all of the seat's roots in one cut). By AI agents, Wed Nov 11 2026. No macro, syntax, notation, axiom, sorry.
-/
import Derived.Test.YbulkbmoiFmtChecked
import GoSem.Claim
import GoSem.ClaimJoined
import GoSem.ClaimMapViews
import Derived.JoinedTies
import Derived.KernelRfl
namespace Go.Proofs.YbulkbmoiFmt
/- THE CELL 'sum', in the pinned program and in every row, IS THE sha256 OF THE DUMP (.gsa) THAT YbulkbmoiFmtProg.lean LOADS. Nothing in Lean hashes anything: it is a label: what it is worth is what the hold of that sum in a sandbox is worth. -/
noncomputable def Ybaf.pinned : Pinned := { name := "ybulkbmoifmt", sum := "bfb16b375614c7ec5ac977000999c584cf1139c10c3f1bcf2c46283108f3d2b5", checked := Ybaf.checked }
namespace Rows
def none {H : Type} : Left H := { results := [], args := [] }

/-- 'repository.LawS3167BBacking': WHATEVER THE INPUT: true; the input reads as it did. -/
def lawS3167BBackingSpec : ChangeSpec := { name := "lawS3167BBacking", fn := fun _ => fun
  | [d1, d2, d3] => { results := [.lit (.bool true)], args := [d1, d2, d3] }
  | _ => none }
def lawS3167BBackingRow : OpenClaim := { program := "ybulkbmoifmt", sum := "bfb16b375614c7ec5ac977000999c584cf1139c10c3f1bcf2c46283108f3d2b5", func := "example.com/chainfold/chainfold/repository.LawS3167BBacking", spec := "lawS3167BBacking", stops := ["fmt.Sprintf"], inPlace := ["fmt.Sprintf"], apart := false }
/-- NO THEOREM (fmt's text is open here; it may be false): for the released tool's asking of the row's closed facts alone. THE STATEMENT IS 'LawS3167BBackingToldSaid' (YbulkbmoiFmtCards.lean). -/
def LawS3167BBackingFormAsk : Prop := lawS3167BBackingRow.holds Ybaf.pinned (OpenSpec.ofChange lawS3167BBackingSpec)

/-- ITS FALSE NEIGHBOUR: 'it returns false'. Refute it at one input. -/
def lawS3167BBackingWrong : ChangeSpec := { name := "lawS3167BBacking", fn := fun _ => fun
  | [d1, d2, d3] => { results := [.lit (.bool false)], args := [d1, d2, d3] }
  | _ => none }
def LawS3167BBackingWrongFormAsk : Prop := lawS3167BBackingRow.holds Ybaf.pinned (OpenSpec.ofChange lawS3167BBackingWrong)

end Rows
end Go.Proofs.YbulkbmoiFmt
