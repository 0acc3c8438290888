/- The walks of start and served, and of TryLock at a free lock. -/
import Derived.Test.YbulkbufoRows
import Derived.Test.YbulkbufoLocks
import Derived.Conc.MuLone
import Derived.WalkKit
namespace Go.Proofs.Ybulkbufo
open Go.RowKit Go.MuLone

theorem start_any (b off : Nat) (t : Int) (w : World)
    (h1 : w.cell? ⟨b, off + 1, none⟩ = some (.int .i32 0)) (h3 : w.cell? ⟨b, off + 3, none⟩ = some (.int .i64 t))
    (f1 : w.frozen? ⟨b, off + 1, none⟩ = false) :
    Calls Yba.prog 7 #[.pointer (some ⟨b, off, none⟩)] w fun e w' => e = .returned (.int .i64 t) ∧
      w' = (w.setCell ⟨b, off + 1, none⟩ (.int .i32 1)).setCell ⟨b, off + 1, none⟩ (.int .i32 0) := by
  go_enter_defers Yba.func7, Yba.ntmps7
  go_wp2_with (go_at_call 8; refine (lock_free Yba.muLib ⟨b, off + 1, none⟩ _ h1 f1).mono ?_; rintro e w' ⟨rfl, rfl⟩)
  refine leaves_cons (f := 9) (args := #[.pointer (some ⟨b, off + 1, none⟩)]) (by simp) (by simp [go_sem]) ?_
  refine (unlock_deferred Yba.muLib ⟨b, off + 1, none⟩ .returning _ ?_ ?_).mono ?_
  · exact World.cell?_setCell_same w ⟨b, off + 1, none⟩ (.int .i32 1) h1
  · simp [f1]
  rintro e u' w'' ⟨rfl, rfl, rfl⟩
  exact ⟨_, results_tmp rfl _ _ _, rfl, rfl⟩

theorem start_nil (w : World) : Calls Yba.prog 7 #[.pointer none] w fun e w' => e = .returned (.int .i64 0) ∧ w' = w := by
  go_enter Yba.func7, Yba.ntmps7
  go_wp2
  go_ret
  exact ⟨rfl, rfl⟩

theorem served_any (b off rb ro : Nat) (t p : Int) (w : World)
    (h1 : w.cell? ⟨b, off + 1, none⟩ = some (.int .i32 0)) (h3 : w.cell? ⟨b, off + 3, none⟩ = some (.int .i64 t))
    (hr : w.cell? ⟨rb, ro + 8, none⟩ = some (.int .i64 p)) (hne : b ≠ rb)
    (f1 : w.frozen? ⟨b, off + 1, none⟩ = false) (f3 : w.frozen? ⟨b, off + 3, none⟩ = false) :
    Calls Yba.prog 5 #[.pointer (some ⟨b, off, none⟩), .pointer (some ⟨rb, ro, none⟩)] w fun e w' => e = .returned (.tuple #[]) ∧
      w' = ((w.setCell ⟨b, off + 1, none⟩ (.int .i32 1)).setCell ⟨b, off + 3, none⟩ (.int .i64 (wrap64 (p - 1)))).setCell ⟨b, off + 1, none⟩ (.int .i32 0) := by
  go_enter_defers Yba.func5, Yba.ntmps5
  go_wp2_with (go_at_call 8; refine (lock_free Yba.muLib ⟨b, off + 1, none⟩ _ h1 f1).mono ?_; rintro e w' ⟨rfl, rfl⟩)
  refine leaves_cons (f := 9) (args := #[.pointer (some ⟨b, off + 1, none⟩)]) (by simp) (by simp [go_sem]) ?_
  refine (unlock_deferred Yba.muLib ⟨b, off + 1, none⟩ .returning _ ?_ ?_).mono ?_
  · exact (World.cell?_setCell_other _ ⟨b, off + 3, none⟩ ⟨b, off + 1, none⟩ _ (by simp)).trans (World.cell?_setCell_same w ⟨b, off + 1, none⟩ (.int .i32 1) h1)
  · simp [f1]
  rintro e u' w'' ⟨rfl, rfl, rfl⟩
  exact ⟨_, results_none rfl _ _ _, rfl, rfl⟩

theorem served_nores (a : Option Addr) (w : World) : Calls Yba.prog 5 #[.pointer a, .pointer none] w fun e w' => e = .returned (.tuple #[]) ∧ w' = w := by
  cases a
  all_goals
    go_enter Yba.func5, Yba.ntmps5
    go_wp2
    refine bodyPost_ret (results_none rfl _ _ _) rfl ?_
    exact ⟨rfl, rfl⟩

theorem served_norun (a : Option Addr) (w : World) : Calls Yba.prog 5 #[.pointer none, .pointer a] w fun e w' => e = .returned (.tuple #[]) ∧ w' = w := by
  go_enter Yba.func5, Yba.ntmps5
  go_wp2
  refine bodyPost_ret (results_none rfl _ _ _) rfl ?_
  exact ⟨rfl, rfl⟩

set_option maxRecDepth 100000 in
theorem itry_free (a : Addr) (w : World) (hc : w.cell? a = some (.int .i32 0)) (hz : w.frozen? a = false) :
    Calls Yba.prog 10 #[.pointer (some a)] w fun e w' => e = .returned (.bool true) ∧ w' = w.setCell a (.int .i32 1) := by
  have hd : ∀ W : World, (callFunc 13 #[]).run Yba.prog W = .ok (.value (.tuple #[])) W := fun W => disable Yba.muLib W
  have he : ∀ W : World, (callFunc 14 #[]).run Yba.prog W = .ok (.value (.tuple #[])) W := fun W => enable Yba.muLib W
  have ha : ∀ W : World, (callFunc 16 #[.pointer (some a)]).run Yba.prog W = .ok (.value (.tuple #[])) W := fun W => acquire Yba.muLib a W
  have hcas : (callFunc 15 #[.pointer (some a), .int .i32 0, .int .i32 1]).run Yba.prog w = .ok (.value (.bool true)) (w.setCell a (.int .i32 1)) :=
    run_call_cas_hit (P := Yba.prog) Yba.muLib.f_cas32 (by kernel_rfl) (by kernel_rfl) (by kernel_rfl) .i32 (by kernel_rfl) (y := 1) hc hz
  have hc' : (w.setCell a (.int .i32 1)).cell? a = some (.int .i32 1) := by simp [go_sem, hc]
  have hcv : (convert 49 53 (.pointer (some a))).run Yba.prog (w.setCell a (.int .i32 1)) = .ok (.pointer (some a)) (w.setCell a (.int .i32 1)) :=
    run_convert_to_unsafe (P := Yba.prog) (src := 49) (dst := 53) Yba.underlying49 Yba.underlying53 Yba.muLib.room_tIMutex hc'
  have hb : bits BinOp.and IntKind.i32 0 5 = 0 := by decide
  have HCAS : Hid ((callFunc 15 #[.pointer (some a), .int .i32 0, .int .i32 1]).run Yba.prog w = .ok (.value (.bool true)) (w.setCell a (.int .i32 1))) := hcas
  clear hcas
  go_enter Yba.func10, Yba.ntmps10
  go_wp2
  rw [HCAS.out]
  clear HCAS
  go_wp2
  go_ret
  exact ⟨rfl, rfl⟩

theorem try_free (a : Addr) (w : World) (hc : w.cell? a = some (.int .i32 0)) (hz : w.frozen? a = false) :
    Calls Yba.prog 6 #[.pointer (some a)] w fun e w' => e = .returned (.bool true) ∧ w' = w.setCell a (.int .i32 1) := by
  go_enter Yba.func6, Yba.ntmps6
  go_wp2_with fail
  refine (itry_free a _ hc hz).mono ?_
  rintro e w' ⟨rfl, rfl⟩
  go_wp2
  go_ret
  exact ⟨rfl, rfl⟩

end Go.Proofs.Ybulkbufo
