/-
  No cell of these rows narrows 'for every input' (looked for: loops, veiled, ifaces, maps, wideKeys, modest, calm, conditions, laid).
  DERIVED. THE GIVEN ROWS OF THIS SEAT. 2 by the template 'for every input the law returns true; each argument reads behind the call as it read before'; 0 by the template 'total and deterministic' (their statements: YbulkbujiTotals.lean).
  GIVEN WITH THE SEED: the statements are not yours to turn. If you find one false, say at which input.
  Laid BY PROGRAM, IN A SANDBOX (cutbox-rows.mjs): the forced cells as the released guide's own fill.sh prints them over the translation 53abc459e994e182… (all of the seat's roots in one cut). By AI agents, Wed Nov 11 2026. No macro, syntax, notation, axiom, sorry.
-/
import Derived.Test.YbulkbujiChecked
import GoSem.Claim
import GoSem.ClaimJoined
import GoSem.ClaimMapViews
import Derived.JoinedTies
import Derived.KernelRfl
namespace Go.Proofs.Ybulkbuji
/- THE CELL 'sum', in the pinned program and in every row, IS THE sha256 OF THE DUMP (.gsa) THAT YbulkbujiProg.lean LOADS. Nothing in Lean hashes anything: it is a label: what it is worth is what the hold of that sum in a sandbox is worth. -/
noncomputable def Yba.pinned : Pinned := { name := "ybulkbuji", sum := "53abc459e994e1825979cf1e763dae3bd06cca2e67713ea91817d4a34419d6ea", checked := Yba.checked }
namespace Rows
def none {H : Type} : Left H := { results := [], args := [] }

/-- 'capture.LawS3544CModel': WHATEVER THE INPUT: true; the input reads as it did. -/
def lawS3544CModelSpec : ChangeSpec := { name := "lawS3544CModel", fn := fun _ => fun
  | [d] => { results := [.lit (.bool true)], args := [d] }
  | _ => none }
def lawS3544CModelRow : OpenClaim := { program := "ybulkbuji", sum := "53abc459e994e1825979cf1e763dae3bd06cca2e67713ea91817d4a34419d6ea", func := "example.com/teidflow/teidflow/internal/capture.LawS3544CModel", spec := "lawS3544CModel", named := ["encoding/binary.BigEndian"], apart := false }
def LawS3544CModelSaid : Prop := lawS3544CModelRow.holds Yba.pinned (OpenSpec.ofChange lawS3544CModelSpec)

/-- ITS FALSE NEIGHBOUR: 'it returns false'. Refute it at one input. -/
def lawS3544CModelWrong : ChangeSpec := { name := "lawS3544CModel", fn := fun _ => fun
  | [d] => { results := [.lit (.bool false)], args := [d] }
  | _ => none }
def LawS3544CModelWrongFalsely : Prop := lawS3544CModelRow.holds Yba.pinned (OpenSpec.ofChange lawS3544CModelWrong)

/-- 'capture.LawS3544CBuilt': WHATEVER THE INPUT: true; the input reads as it did. -/
def lawS3544CBuiltSpec : ChangeSpec := { name := "lawS3544CBuilt", fn := fun _ => fun
  | [d1, d2, d3, d4, d5, d6] => { results := [.lit (.bool true)], args := [d1, d2, d3, d4, d5, d6] }
  | _ => none }
def lawS3544CBuiltRow : OpenClaim := { program := "ybulkbuji", sum := "53abc459e994e1825979cf1e763dae3bd06cca2e67713ea91817d4a34419d6ea", func := "example.com/teidflow/teidflow/internal/capture.LawS3544CBuilt", spec := "lawS3544CBuilt", named := ["encoding/binary.BigEndian"], apart := false }
def LawS3544CBuiltSaid : Prop := lawS3544CBuiltRow.holds Yba.pinned (OpenSpec.ofChange lawS3544CBuiltSpec)

/-- ITS FALSE NEIGHBOUR: 'it returns false'. Refute it at one input. -/
def lawS3544CBuiltWrong : ChangeSpec := { name := "lawS3544CBuilt", fn := fun _ => fun
  | [d1, d2, d3, d4, d5, d6] => { results := [.lit (.bool false)], args := [d1, d2, d3, d4, d5, d6] }
  | _ => none }
def LawS3544CBuiltWrongFalsely : Prop := lawS3544CBuiltRow.holds Yba.pinned (OpenSpec.ofChange lawS3544CBuiltWrong)

end Rows
end Go.Proofs.Ybulkbuji
