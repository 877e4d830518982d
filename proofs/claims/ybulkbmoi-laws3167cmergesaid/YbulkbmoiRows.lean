/-
  No cell of these rows narrows 'for every input' (looked for: loops, veiled, ifaces, maps, wideKeys, modest, calm, conditions, laid).
  DERIVED. THE GIVEN ROWS OF THIS SEAT. 2 by the template 'for every input the law returns true; each argument reads behind the call as it read before'; 0 by the template 'total and deterministic' (their statements: YbulkbmoiTotals.lean).
  GIVEN WITH THE SEED: the statements are not yours to turn. If you find one false, say at which input.
  Laid BY PROGRAM, IN A SANDBOX (cutbox-rows.mjs): the forced cells as the released guide's own fill.sh prints them over the translation 6dd6da8f78599f5a… (all of the seat's roots in one cut). By AI agents, Wed Nov 11 2026. No macro, syntax, notation, axiom, sorry.
-/
import Derived.Test.YbulkbmoiChecked
import GoSem.Claim
import GoSem.ClaimJoined
import GoSem.ClaimMapViews
import Derived.JoinedTies
import Derived.KernelRfl
namespace Go.Proofs.Ybulkbmoi
/- THE CELL 'sum', in the pinned program and in every row, IS THE sha256 OF THE DUMP (.gsa) THAT YbulkbmoiProg.lean LOADS. Nothing in Lean hashes anything: it is a label: what it is worth is what the hold of that sum in a sandbox is worth. -/
noncomputable def Yba.pinned : Pinned := { name := "ybulkbmoi", sum := "6dd6da8f78599f5a17f6077226fb8b6e6d251ec905cac174455effa77414e36e", checked := Yba.checked }
namespace Rows
def none {H : Type} : Left H := { results := [], args := [] }

/-- 'repository.LawS3167CHeads': WHATEVER THE INPUT: true; the input reads as it did. -/
def lawS3167CHeadsSpec : ChangeSpec := { name := "lawS3167CHeads", fn := fun _ => fun
  | [d] => { results := [.lit (.bool true)], args := [d] }
  | _ => none }
def lawS3167CHeadsRow : OpenClaim := { program := "ybulkbmoi", sum := "6dd6da8f78599f5a17f6077226fb8b6e6d251ec905cac174455effa77414e36e", func := "example.com/chainfold/chainfold/repository.LawS3167CHeads", spec := "lawS3167CHeads", named := ["encoding/binary.BigEndian"], apart := false }
def LawS3167CHeadsSaid : Prop := lawS3167CHeadsRow.holds Yba.pinned (OpenSpec.ofChange lawS3167CHeadsSpec)

/-- ITS FALSE NEIGHBOUR: 'it returns false'. Refute it at one input. -/
def lawS3167CHeadsWrong : ChangeSpec := { name := "lawS3167CHeads", fn := fun _ => fun
  | [d] => { results := [.lit (.bool false)], args := [d] }
  | _ => none }
def LawS3167CHeadsWrongFalsely : Prop := lawS3167CHeadsRow.holds Yba.pinned (OpenSpec.ofChange lawS3167CHeadsWrong)

/-- 'repository.LawS3167CMerge': WHATEVER THE INPUT: true; the input reads as it did. -/
def lawS3167CMergeSpec : ChangeSpec := { name := "lawS3167CMerge", fn := fun _ => fun
  | [d] => { results := [.lit (.bool true)], args := [d] }
  | _ => none }
def lawS3167CMergeRow : OpenClaim := { program := "ybulkbmoi", sum := "6dd6da8f78599f5a17f6077226fb8b6e6d251ec905cac174455effa77414e36e", func := "example.com/chainfold/chainfold/repository.LawS3167CMerge", spec := "lawS3167CMerge", inPlace := ["slices.overlaps[example.com/chainfold/chainfold/repository.clusterSum]"], named := ["encoding/binary.BigEndian"], apart := false }
def LawS3167CMergeSaid : Prop := lawS3167CMergeRow.holds Yba.pinned (OpenSpec.ofChange lawS3167CMergeSpec)

/-- ITS FALSE NEIGHBOUR: 'it returns false'. Refute it at one input. -/
def lawS3167CMergeWrong : ChangeSpec := { name := "lawS3167CMerge", fn := fun _ => fun
  | [d] => { results := [.lit (.bool false)], args := [d] }
  | _ => none }
def LawS3167CMergeWrongFalsely : Prop := lawS3167CMergeRow.holds Yba.pinned (OpenSpec.ofChange lawS3167CMergeWrong)

end Rows
end Go.Proofs.Ybulkbmoi
