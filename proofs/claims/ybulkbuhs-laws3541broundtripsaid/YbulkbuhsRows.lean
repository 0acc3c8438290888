/-
  No cell of these rows narrows 'for every input' (looked for: loops, veiled, ifaces, maps, wideKeys, modest, calm, conditions, laid).
  DERIVED. THE GIVEN ROWS OF THIS SEAT. 2 by the template 'for every input the law returns true; each argument reads behind the call as it read before'; 0 by the template 'total and deterministic' (their statements: YbulkbuhsTotals.lean).
  GIVEN WITH THE SEED: the statements are not yours to turn. If you find one false, say at which input.
  Laid BY PROGRAM, IN A SANDBOX (cutbox-rows.mjs): the forced cells as the released guide's own fill.sh prints them over the translation 53af6670ec1f51ff… (all of the seat's roots in one cut). By AI agents, Wed Nov 11 2026. No macro, syntax, notation, axiom, sorry.
-/
import Derived.Test.YbulkbuhsChecked
import GoSem.Claim
import GoSem.ClaimJoined
import GoSem.ClaimMapViews
import Derived.JoinedTies
import Derived.KernelRfl
namespace Go.Proofs.Ybulkbuhs
/- THE CELL 'sum', in the pinned program and in every row, IS THE sha256 OF THE DUMP (.gsa) THAT YbulkbuhsProg.lean LOADS. Nothing in Lean hashes anything: it is a label: what it is worth is what the hold of that sum in a sandbox is worth. -/
noncomputable def Yba.pinned : Pinned := { name := "ybulkbuhs", sum := "53af6670ec1f51ffdeb6f5d72ed616cc96e20b0546fd7bfe42749f4a7466d87d", checked := Yba.checked }
namespace Rows
def none {H : Type} : Left H := { results := [], args := [] }

/-- 'farewire.LawS3541BExact': WHATEVER THE INPUT: true; the input reads as it did. -/
def lawS3541BExactSpec : ChangeSpec := { name := "lawS3541BExact", fn := fun _ => fun
  | [d1, d2, d3, d4, d5, d6] => { results := [.lit (.bool true)], args := [d1, d2, d3, d4, d5, d6] }
  | _ => none }
def lawS3541BExactRow : OpenClaim := { program := "ybulkbuhs", sum := "53af6670ec1f51ffdeb6f5d72ed616cc96e20b0546fd7bfe42749f4a7466d87d", func := "example.com/farewire/farewire.LawS3541BExact", spec := "lawS3541BExact", named := ["encoding/binary.BigEndian"], apart := false }
def LawS3541BExactSaid : Prop := lawS3541BExactRow.holds Yba.pinned (OpenSpec.ofChange lawS3541BExactSpec)

/-- ITS FALSE NEIGHBOUR: 'it returns false'. Refute it at one input. -/
def lawS3541BExactWrong : ChangeSpec := { name := "lawS3541BExact", fn := fun _ => fun
  | [d1, d2, d3, d4, d5, d6] => { results := [.lit (.bool false)], args := [d1, d2, d3, d4, d5, d6] }
  | _ => none }
def LawS3541BExactWrongFalsely : Prop := lawS3541BExactRow.holds Yba.pinned (OpenSpec.ofChange lawS3541BExactWrong)

/-- 'farewire.LawS3541BRoundTrip': WHATEVER THE INPUT: true; the input reads as it did. -/
def lawS3541BRoundTripSpec : ChangeSpec := { name := "lawS3541BRoundTrip", fn := fun _ => fun
  | [d1, d2, d3, d4, d5] => { results := [.lit (.bool true)], args := [d1, d2, d3, d4, d5] }
  | _ => none }
def lawS3541BRoundTripRow : OpenClaim := { program := "ybulkbuhs", sum := "53af6670ec1f51ffdeb6f5d72ed616cc96e20b0546fd7bfe42749f4a7466d87d", func := "example.com/farewire/farewire.LawS3541BRoundTrip", spec := "lawS3541BRoundTrip", named := ["encoding/binary.BigEndian"], apart := false }
def LawS3541BRoundTripSaid : Prop := lawS3541BRoundTripRow.holds Yba.pinned (OpenSpec.ofChange lawS3541BRoundTripSpec)

/-- ITS FALSE NEIGHBOUR: 'it returns false'. Refute it at one input. -/
def lawS3541BRoundTripWrong : ChangeSpec := { name := "lawS3541BRoundTrip", fn := fun _ => fun
  | [d1, d2, d3, d4, d5] => { results := [.lit (.bool false)], args := [d1, d2, d3, d4, d5] }
  | _ => none }
def LawS3541BRoundTripWrongFalsely : Prop := lawS3541BRoundTripRow.holds Yba.pinned (OpenSpec.ofChange lawS3541BRoundTripWrong)

end Rows
end Go.Proofs.Ybulkbuhs
