/-
  No cell of these rows narrows 'for every input' (looked for: loops, veiled, ifaces, maps, wideKeys, modest, calm, conditions, laid).
  DERIVED. THE GIVEN ROWS OF THIS SEAT. 2 by the template 'for every input the law returns true; each argument reads behind the call as it read before'; 0 by the template 'total and deterministic' (their statements: YbulkbufoTotals.lean).
  GIVEN WITH THE SEED: the statements are not yours to turn. If you find one false, say at which input.
  Laid BY PROGRAM, IN A SANDBOX (cutbox-rows.mjs): the forced cells as the released guide's own fill.sh prints them over the translation b2cbb03b96963e78… (all of the seat's roots in one cut). By AI agents, Wed Nov 11 2026. No macro, syntax, notation, axiom, sorry.
-/
import Derived.Test.YbulkbufoChecked
import GoSem.Claim
import GoSem.ClaimJoined
import GoSem.ClaimMapViews
import Derived.JoinedTies
import Derived.KernelRfl
namespace Go.Proofs.Ybulkbufo
/- THE CELL 'sum', in the pinned program and in every row, IS THE sha256 OF THE DUMP (.gsa) THAT YbulkbufoProg.lean LOADS. Nothing in Lean hashes anything: it is a label: what it is worth is what the hold of that sum in a sandbox is worth. -/
noncomputable def Yba.pinned : Pinned := { name := "ybulkbufo", sum := "b2cbb03b96963e78d1da4ab724c56bfbb86e9665dfed12572a1f49b6fe38a827", checked := Yba.checked }
namespace Rows
def none {H : Type} : Left H := { results := [], args := [] }

/-- 'last-resort.LawS3537CMoves': WHATEVER THE INPUT: true; the input reads as it did. -/
def lawS3537CMovesSpec : ChangeSpec := { name := "lawS3537CMoves", fn := fun _ => fun
  | [d1, d2, d3] => { results := [.lit (.bool true)], args := [d1, d2, d3] }
  | _ => none }
def lawS3537CMovesRow : OpenClaim := { program := "ybulkbufo", sum := "b2cbb03b96963e78d1da4ab724c56bfbb86e9665dfed12572a1f49b6fe38a827", func := "example.com/last-resort/last-resort.LawS3537CMoves", spec := "lawS3537CMoves", inPlace := ["(*internal/sync.Mutex).Lock", "internal/race.Disable", "sync/atomic.CompareAndSwapInt32", "internal/race.Enable", "internal/race.Acquire", "(*internal/sync.Mutex).lockSlow", "internal/sync.runtime_canSpin", "internal/sync.runtime_doSpin", "internal/sync.throw", "internal/sync.runtime_nanotime", "internal/sync.runtime_SemacquireMutex", "sync/atomic.AddInt32", "(*internal/sync.Mutex).Unlock", "internal/race.ReleaseMerge", "(*internal/sync.Mutex).unlockSlow", "internal/sync.fatal", "internal/sync.runtime_Semrelease", "(*internal/sync.Mutex).TryLock"], apart := false }
def LawS3537CMovesSaid : Prop := lawS3537CMovesRow.holds Yba.pinned (OpenSpec.ofChange lawS3537CMovesSpec)

/-- ITS FALSE NEIGHBOUR: 'it returns false'. Refute it at one input. -/
def lawS3537CMovesWrong : ChangeSpec := { name := "lawS3537CMoves", fn := fun _ => fun
  | [d1, d2, d3] => { results := [.lit (.bool false)], args := [d1, d2, d3] }
  | _ => none }
def LawS3537CMovesWrongFalsely : Prop := lawS3537CMovesRow.holds Yba.pinned (OpenSpec.ofChange lawS3537CMovesWrong)

/-- 'last-resort.LawS3537CStart': WHATEVER THE INPUT: true; the input reads as it did. -/
def lawS3537CStartSpec : ChangeSpec := { name := "lawS3537CStart", fn := fun _ => fun
  | [d1, d2] => { results := [.lit (.bool true)], args := [d1, d2] }
  | _ => none }
def lawS3537CStartRow : OpenClaim := { program := "ybulkbufo", sum := "b2cbb03b96963e78d1da4ab724c56bfbb86e9665dfed12572a1f49b6fe38a827", func := "example.com/last-resort/last-resort.LawS3537CStart", spec := "lawS3537CStart", inPlace := ["(*internal/sync.Mutex).Lock", "internal/race.Disable", "sync/atomic.CompareAndSwapInt32", "internal/race.Enable", "internal/race.Acquire", "(*internal/sync.Mutex).lockSlow", "internal/sync.runtime_canSpin", "internal/sync.runtime_doSpin", "internal/sync.throw", "internal/sync.runtime_nanotime", "internal/sync.runtime_SemacquireMutex", "sync/atomic.AddInt32", "(*internal/sync.Mutex).Unlock", "internal/race.ReleaseMerge", "(*internal/sync.Mutex).unlockSlow", "internal/sync.fatal", "internal/sync.runtime_Semrelease"], apart := false }
def LawS3537CStartSaid : Prop := lawS3537CStartRow.holds Yba.pinned (OpenSpec.ofChange lawS3537CStartSpec)

/-- ITS FALSE NEIGHBOUR: 'it returns false'. Refute it at one input. -/
def lawS3537CStartWrong : ChangeSpec := { name := "lawS3537CStart", fn := fun _ => fun
  | [d1, d2] => { results := [.lit (.bool false)], args := [d1, d2] }
  | _ => none }
def LawS3537CStartWrongFalsely : Prop := lawS3537CStartRow.holds Yba.pinned (OpenSpec.ofChange lawS3537CStartWrong)

end Rows
end Go.Proofs.Ybulkbufo
