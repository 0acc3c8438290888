/-
  No cell of these rows narrows 'for every input' (looked for: loops, veiled, ifaces, maps, wideKeys, modest, calm, conditions, laid).
  DERIVED. THE GIVEN ROWS OF THIS SEAT. 4 by the template 'for every input the law returns true; each argument reads behind the call as it read before'; 0 by the template 'total and deterministic' (their statements: YbulkbudkTotals.lean).
  GIVEN WITH THE SEED: the statements are not yours to turn. If you find one false, say at which input.
  Laid BY PROGRAM, IN A SANDBOX (cutbox-rows.mjs): the forced cells as the released guide's own fill.sh prints them over the translation 190930c9eee8c993… (all of the seat's roots in one cut). By AI agents, Wed Nov 11 2026. No macro, syntax, notation, axiom, sorry.
-/
import Derived.Test.YbulkbudkChecked
import GoSem.Claim
import GoSem.ClaimJoined
import GoSem.ClaimMapViews
import Derived.JoinedTies
import Derived.KernelRfl
namespace Go.Proofs.Ybulkbudk
/- THE CELL 'sum', in the pinned program and in every row, IS THE sha256 OF THE DUMP (.gsa) THAT YbulkbudkProg.lean LOADS. Nothing in Lean hashes anything: it is a label: what it is worth is what the hold of that sum in a sandbox is worth. -/
noncomputable def Yba.pinned : Pinned := { name := "ybulkbudk", sum := "190930c9eee8c993f742f0d1a83f012f47313a52be4fd0ee1616fe41f7174222", checked := Yba.checked }
namespace Rows
def none {H : Type} : Left H := { results := [], args := [] }

/-- 'placeholder.LawS3533ALookup': WHATEVER THE INPUT: true; the input reads as it did. -/
def lawS3533ALookupSpec : ChangeSpec := { name := "lawS3533ALookup", fn := fun _ => fun
  | [d1, d2, d3, d4, d5] => { results := [.lit (.bool true)], args := [d1, d2, d3, d4, d5] }
  | _ => none }
def lawS3533ALookupRow : OpenClaim := { program := "ybulkbudk", sum := "190930c9eee8c993f742f0d1a83f012f47313a52be4fd0ee1616fe41f7174222", func := "example.com/placeholder/placeholder.LawS3533ALookup", spec := "lawS3533ALookup", plainKeys := false, apart := false }
def LawS3533ALookupSaid : Prop := lawS3533ALookupRow.holds Yba.pinned (OpenSpec.ofChange lawS3533ALookupSpec)

/-- ITS FALSE NEIGHBOUR: 'it returns false'. Refute it at one input. -/
def lawS3533ALookupWrong : ChangeSpec := { name := "lawS3533ALookup", fn := fun _ => fun
  | [d1, d2, d3, d4, d5] => { results := [.lit (.bool false)], args := [d1, d2, d3, d4, d5] }
  | _ => none }
def LawS3533ALookupWrongFalsely : Prop := lawS3533ALookupRow.holds Yba.pinned (OpenSpec.ofChange lawS3533ALookupWrong)

/-- 'placeholder.LawS3533ANil': WHATEVER THE INPUT: true; the input reads as it did. -/
def lawS3533ANilSpec : ChangeSpec := { name := "lawS3533ANil", fn := fun _ => fun
  | [d1, d2, d3] => { results := [.lit (.bool true)], args := [d1, d2, d3] }
  | _ => none }
def lawS3533ANilRow : OpenClaim := { program := "ybulkbudk", sum := "190930c9eee8c993f742f0d1a83f012f47313a52be4fd0ee1616fe41f7174222", func := "example.com/placeholder/placeholder.LawS3533ANil", spec := "lawS3533ANil", plainKeys := false, apart := false }
def LawS3533ANilSaid : Prop := lawS3533ANilRow.holds Yba.pinned (OpenSpec.ofChange lawS3533ANilSpec)

/-- ITS FALSE NEIGHBOUR: 'it returns false'. Refute it at one input. -/
def lawS3533ANilWrong : ChangeSpec := { name := "lawS3533ANil", fn := fun _ => fun
  | [d1, d2, d3] => { results := [.lit (.bool false)], args := [d1, d2, d3] }
  | _ => none }
def LawS3533ANilWrongFalsely : Prop := lawS3533ANilRow.holds Yba.pinned (OpenSpec.ofChange lawS3533ANilWrong)

/-- 'placeholder.LawS3533BRoundTrip': WHATEVER THE INPUT: true; the input reads as it did. -/
def lawS3533BRoundTripSpec : ChangeSpec := { name := "lawS3533BRoundTrip", fn := fun _ => fun
  | [d1, d2, d3, d4, d5, d6, d7] => { results := [.lit (.bool true)], args := [d1, d2, d3, d4, d5, d6, d7] }
  | _ => none }
def lawS3533BRoundTripRow : OpenClaim := { program := "ybulkbudk", sum := "190930c9eee8c993f742f0d1a83f012f47313a52be4fd0ee1616fe41f7174222", func := "example.com/placeholder/placeholder.LawS3533BRoundTrip", spec := "lawS3533BRoundTrip", plainKeys := false, apart := false }
def LawS3533BRoundTripSaid : Prop := lawS3533BRoundTripRow.holds Yba.pinned (OpenSpec.ofChange lawS3533BRoundTripSpec)

/-- ITS FALSE NEIGHBOUR: 'it returns false'. Refute it at one input. -/
def lawS3533BRoundTripWrong : ChangeSpec := { name := "lawS3533BRoundTrip", fn := fun _ => fun
  | [d1, d2, d3, d4, d5, d6, d7] => { results := [.lit (.bool false)], args := [d1, d2, d3, d4, d5, d6, d7] }
  | _ => none }
def LawS3533BRoundTripWrongFalsely : Prop := lawS3533BRoundTripRow.holds Yba.pinned (OpenSpec.ofChange lawS3533BRoundTripWrong)

/-- 'placeholder.LawS3533BSequence': WHATEVER THE INPUT: true; the input reads as it did. -/
def lawS3533BSequenceSpec : ChangeSpec := { name := "lawS3533BSequence", fn := fun _ => fun
  | [d] => { results := [.lit (.bool true)], args := [d] }
  | _ => none }
def lawS3533BSequenceRow : OpenClaim := { program := "ybulkbudk", sum := "190930c9eee8c993f742f0d1a83f012f47313a52be4fd0ee1616fe41f7174222", func := "example.com/placeholder/placeholder.LawS3533BSequence", spec := "lawS3533BSequence", plainKeys := false, apart := false }
def LawS3533BSequenceSaid : Prop := lawS3533BSequenceRow.holds Yba.pinned (OpenSpec.ofChange lawS3533BSequenceSpec)

/-- ITS FALSE NEIGHBOUR: 'it returns false'. Refute it at one input. -/
def lawS3533BSequenceWrong : ChangeSpec := { name := "lawS3533BSequence", fn := fun _ => fun
  | [d] => { results := [.lit (.bool false)], args := [d] }
  | _ => none }
def LawS3533BSequenceWrongFalsely : Prop := lawS3533BSequenceRow.holds Yba.pinned (OpenSpec.ofChange lawS3533BSequenceWrong)

end Rows
end Go.Proofs.Ybulkbudk
