/-
  No cell of these rows narrows 'for every input' (looked for: loops, veiled, ifaces, maps, wideKeys, modest, calm, conditions, laid).
  DERIVED. THE GIVEN ROWS OF THIS SEAT. 4 by the template 'for every input the law returns true; each argument reads behind the call as it read before'; 0 by the template 'total and deterministic' (their statements: YbulkbmngTotals.lean).
  GIVEN WITH THE SEED: the statements are not yours to turn. If you find one false, say at which input.
  Laid BY PROGRAM, IN A SANDBOX (cutbox-rows.mjs): the forced cells as the released guide's own fill.sh prints them over the translation fa44bf13ccb3c7f3… (all of the seat's roots in one cut). By AI agents, Wed Nov 11 2026. No macro, syntax, notation, axiom, sorry.
-/
import Derived.Test.YbulkbmngChecked
import GoSem.Claim
import GoSem.ClaimJoined
import GoSem.ClaimMapViews
import Derived.JoinedTies
import Derived.KernelRfl
namespace Go.Proofs.Ybulkbmng
/- THE CELL 'sum', in the pinned program and in every row, IS THE sha256 OF THE DUMP (.gsa) THAT YbulkbmngProg.lean LOADS. Nothing in Lean hashes anything: it is a label: what it is worth is what the hold of that sum in a sandbox is worth. -/
noncomputable def Yba.pinned : Pinned := { name := "ybulkbmng", sum := "fa44bf13ccb3c7f3df41bcdbfdf01c340ff3ee21455be4a34003ed3db174c789", checked := Yba.checked }
namespace Rows
def none {H : Type} : Left H := { results := [], args := [] }

/-- 'sluice.LawS3165AEncodes': WHATEVER THE INPUT: true; the input reads as it did. -/
def lawS3165AEncodesSpec : ChangeSpec := { name := "lawS3165AEncodes", fn := fun _ => fun
  | [d1, d2] => { results := [.lit (.bool true)], args := [d1, d2] }
  | _ => none }
def lawS3165AEncodesRow : OpenClaim := { program := "ybulkbmng", sum := "fa44bf13ccb3c7f3df41bcdbfdf01c340ff3ee21455be4a34003ed3db174c789", func := "example.com/sluice/sluice.LawS3165AEncodes", spec := "lawS3165AEncodes", named := ["encoding/binary.LittleEndian"], apart := false }
def LawS3165AEncodesSaid : Prop := lawS3165AEncodesRow.holds Yba.pinned (OpenSpec.ofChange lawS3165AEncodesSpec)

/-- ITS FALSE NEIGHBOUR: 'it returns false'. Refute it at one input. -/
def lawS3165AEncodesWrong : ChangeSpec := { name := "lawS3165AEncodes", fn := fun _ => fun
  | [d1, d2] => { results := [.lit (.bool false)], args := [d1, d2] }
  | _ => none }
def LawS3165AEncodesWrongFalsely : Prop := lawS3165AEncodesRow.holds Yba.pinned (OpenSpec.ofChange lawS3165AEncodesWrong)

/-- 'sluice.LawS3165AConcat': WHATEVER THE INPUT: true; the input reads as it did. -/
def lawS3165AConcatSpec : ChangeSpec := { name := "lawS3165AConcat", fn := fun _ => fun
  | [d1, d2, d3] => { results := [.lit (.bool true)], args := [d1, d2, d3] }
  | _ => none }
def lawS3165AConcatRow : OpenClaim := { program := "ybulkbmng", sum := "fa44bf13ccb3c7f3df41bcdbfdf01c340ff3ee21455be4a34003ed3db174c789", func := "example.com/sluice/sluice.LawS3165AConcat", spec := "lawS3165AConcat", named := ["encoding/binary.LittleEndian"], apart := false }
def LawS3165AConcatSaid : Prop := lawS3165AConcatRow.holds Yba.pinned (OpenSpec.ofChange lawS3165AConcatSpec)

/-- ITS FALSE NEIGHBOUR: 'it returns false'. Refute it at one input. -/
def lawS3165AConcatWrong : ChangeSpec := { name := "lawS3165AConcat", fn := fun _ => fun
  | [d1, d2, d3] => { results := [.lit (.bool false)], args := [d1, d2, d3] }
  | _ => none }
def LawS3165AConcatWrongFalsely : Prop := lawS3165AConcatRow.holds Yba.pinned (OpenSpec.ofChange lawS3165AConcatWrong)

/-- 'sluice.LawS3165BBuild': WHATEVER THE INPUT: true; the input reads as it did. -/
def lawS3165BBuildSpec : ChangeSpec := { name := "lawS3165BBuild", fn := fun _ => fun
  | [d1, d2] => { results := [.lit (.bool true)], args := [d1, d2] }
  | _ => none }
def lawS3165BBuildRow : OpenClaim := { program := "ybulkbmng", sum := "fa44bf13ccb3c7f3df41bcdbfdf01c340ff3ee21455be4a34003ed3db174c789", func := "example.com/sluice/sluice.LawS3165BBuild", spec := "lawS3165BBuild", apart := false }
def LawS3165BBuildSaid : Prop := lawS3165BBuildRow.holds Yba.pinned (OpenSpec.ofChange lawS3165BBuildSpec)

/-- ITS FALSE NEIGHBOUR: 'it returns false'. Refute it at one input. -/
def lawS3165BBuildWrong : ChangeSpec := { name := "lawS3165BBuild", fn := fun _ => fun
  | [d1, d2] => { results := [.lit (.bool false)], args := [d1, d2] }
  | _ => none }
def LawS3165BBuildWrongFalsely : Prop := lawS3165BBuildRow.holds Yba.pinned (OpenSpec.ofChange lawS3165BBuildWrong)

/-- 'sluice.LawS3165BNilReader': WHATEVER THE INPUT: true; the input reads as it did. -/
def lawS3165BNilReaderSpec : ChangeSpec := { name := "lawS3165BNilReader", fn := fun _ => fun
  | [d] => { results := [.lit (.bool true)], args := [d] }
  | _ => none }
def lawS3165BNilReaderRow : OpenClaim := { program := "ybulkbmng", sum := "fa44bf13ccb3c7f3df41bcdbfdf01c340ff3ee21455be4a34003ed3db174c789", func := "example.com/sluice/sluice.LawS3165BNilReader", spec := "lawS3165BNilReader", apart := false }
def LawS3165BNilReaderSaid : Prop := lawS3165BNilReaderRow.holds Yba.pinned (OpenSpec.ofChange lawS3165BNilReaderSpec)

/-- ITS FALSE NEIGHBOUR: 'it returns false'. Refute it at one input. -/
def lawS3165BNilReaderWrong : ChangeSpec := { name := "lawS3165BNilReader", fn := fun _ => fun
  | [d] => { results := [.lit (.bool false)], args := [d] }
  | _ => none }
def LawS3165BNilReaderWrongFalsely : Prop := lawS3165BNilReaderRow.holds Yba.pinned (OpenSpec.ofChange lawS3165BNilReaderWrong)

end Rows
end Go.Proofs.Ybulkbmng
