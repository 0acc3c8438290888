/- The walk of zzs3541beq at two slices that hold the same bytes. -/
import Derived.Test.YbulkbuhsLaws
import Derived.Deep.LoopGhost
import Derived.Deep.Draws
import Derived.Deep.QuietTactic
import Derived.BigQuiet
namespace Go.Proofs.Ybulkbuhs
open Go.RowKit

set_option maxHeartbeats 1000000 in
set_option maxRecDepth 100000 in
theorem eq_none (a1 a2 : Option Addr) (c1 c2 : Nat) (w : World) :
    Calls Yba.prog 6 #[.slice a1 0 c1, .slice a2 0 c2] w fun e w' => e = .returned (.bool true) ∧ ∃ q, w' = w.drewN q := by
  go_enter Yba.func6, Yba.ntmps6
  go_wp2
  go_loop [5] (fun i => i = .int .i64 0) (fun _ => 0)
  case atStart => rfl
  case round =>
    subst hrel
    go_wp2
    go_ret
    exact ⟨rfl, 0, rfl⟩

set_option maxHeartbeats 1000000 in
set_option maxRecDepth 100000 in
theorem eq_some (b1 o1 b2 o2 n c1 c2 : Nat) (zs : List Int) (w : World) (hl : zs.length = n) (hn : n ≤ 9223372036854775807)
    (h1 : ∀ j, j < n → w.cell? ⟨b1, o1 + j, none⟩ = some (.int .u8 (zs.getD j 0))) (h2 : ∀ j, j < n → w.cell? ⟨b2, o2 + j, none⟩ = some (.int .u8 (zs.getD j 0))) :
    Calls Yba.prog 6 #[.slice (some ⟨b1, o1, none⟩) n c1, .slice (some ⟨b2, o2, none⟩) n c2] w fun e w' => e = .returned (.bool true) ∧ ∃ q, w' = w.drewN q := by
  go_enter Yba.func6, Yba.ntmps6
  go_wp2
  go_loopg [5] n (fun g s5 wr => ∃ k q : Nat, k ≤ n ∧ n - k ≤ g ∧ s5 = .int .i64 k ∧ wr = w.drewN q)
  case atStart => exact ⟨0, 0, Nat.zero_le _, by omega, rfl, rfl⟩
  case round =>
    obtain ⟨k, q, hk, hg, rfl, rfl⟩ := hrel
    by_cases hlt : k < n
    · have g1 := h1 k hlt
      have g2 := h2 k hlt
      clear h1 h2 hl
      generalize zs.getD k 0 = x at g1 g2
      go_wp2_with fail
      go_region
      go_wp2
      go_roundg (n - (k + 1))
      case measure => omega
      case rel => exact ⟨k + 1, q + 1, by omega, by omega, by go_num, rfl⟩
    · clear h1 h2
      go_wp2
      go_ret
      exact ⟨rfl, q, rfl⟩

end Go.Proofs.Ybulkbuhs
