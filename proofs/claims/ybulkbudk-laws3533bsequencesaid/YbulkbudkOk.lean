/- The walk of zzs3533bok at the very message. -/
import Derived.Test.YbulkbudkRead
namespace Go.Proofs.Ybulkbudk
open Go.RowKit

theorem baseI_go (base : Nat) : wrap64 (IntKind.u64.wrap ((base : Int) * 4) / 4) = baseI base := by
  rw [wrap4]; unfold baseI; congr 1

set_option maxHeartbeats 1000000 in
theorem ok_no (base : Nat) (head tail : Int) (fi : Bool) (mid : ByteArray) (w : World) :
    Calls Yba.prog 12 #[.agg #[.int .i64 (baseI base), .bool false, .int .i64 0, .int .i64 0, .string ByteArray.empty], .bool fi, .int .u64 base, .bool false, .bool fi, .int .u64 head, .int .u64 tail, .string mid] w fun e w' => e = .returned (.bool true) ∧ Below w.heap.size w w' := by
  have hb := baseI_go base
  cases fi
  all_goals
    go_enter Yba.func12, Yba.ntmps12
    go_wp2
    go_ret
    exact ⟨rfl, (Below.refl _ _).alloc (Nat.le_refl _) _⟩

set_option maxHeartbeats 1000000 in
theorem ok_yes (base : Nat) (head tail : Int) (fi : Bool) (mid : ByteArray) (w : World) :
    Calls Yba.prog 12 #[.agg #[.int .i64 (baseI base), .bool true, .int .i64 (wrap64 head), .int .i64 (wrap64 tail), .string mid], .bool fi, .int .u64 base, .bool true, .bool fi, .int .u64 head, .int .u64 tail, .string mid] w fun e w' => e = .returned (.bool true) ∧ Below w.heap.size w w' := by
  have hb := baseI_go base
  cases fi
  all_goals
    go_enter Yba.func12, Yba.ntmps12
    go_wp2
    go_ret
    exact ⟨rfl, (Below.refl _ _).alloc (Nat.le_refl _) _⟩

end Go.Proofs.Ybulkbudk
