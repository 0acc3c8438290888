/- The walk of ethernetIP. -/
import Derived.Test.YbulkbujiPay
namespace Go.Proofs.Ybulkbuji
open Go.RowKit

set_option maxHeartbeats 2000000 in
set_option maxRecDepth 100000 in
theorem eth_any (f : Nat) (hf : f < 65536) (hft : ¬ isTag f) (pay : List Int) (tags : List (Nat × Nat)) (ht : ∀ x ∈ tags, isTag x.1 ∧ x.2 < 65536) (A : List Int) (hA : A.length = 12) (g N C : Nat) (w : World)
    (hN : N = 14 + (after f pay tags).length) (hNC : N ≤ C) (hC : C ≤ 9223372036854775807) (hl : Lie w g 0 (A ++ tail f pay tags)) :
    Calls Yba.prog 6 #[.slice (some ⟨g, 0, none⟩) N C] w fun e w' => ∃ v, e = .returned v ∧ PayPost f pay.length g N v ∧ Below w.heap.size w w' := by
  have hh : headT f tags < 65536 := by
    cases tags with
    | nil => exact hf
    | cons y r2 => have := (ht y (by simp)).1; unfold isTag at this; show y.1 < 65536; omega
  have hl12 : Lie w g 12 (two (headT f tags) ++ after f pay tags) := by
    have := hl.drop A (tail f pay tags) rfl
    rw [hA, Nat.zero_add, tail_eq] at this
    exact this
  have hl14 : Lie w g 14 (after f pay tags) := hl12.drop (two (headT f tags)) (after f pay tags) rfl
  have HU := hid (fun n c W h hb => u16_two (headT f tags) hh g 12 n c (after f pay tags) W h (fun j hj => cell_below (B := w.heap.size) (w := w) (w' := W) hb (World.block_lt_of_cell? _ _ (hl12 j hj)) (hl12 j hj)))
  have HP : Hid (∀ W (a : Addr) (c : Nat), Below w.heap.size w W → (1 ≤ N - 14 → a = ⟨g, 14, none⟩) → N - 14 ≤ c → c ≤ 9223372036854775807 → Calls Yba.prog 8 #[.int .u16 (headT f tags), .slice (some a) (N - 14) c] W fun e w' => ∃ v, e = .returned v ∧ PayPost f pay.length g N v ∧ Below W.heap.size W w') := by
    intro W a c hb ha h1 h2
    have := pay_any f hf hft pay tags ht g 14 (N - 14) c W (by omega) h1 h2 (hl14.below hb) a ha
    rw [show 14 + (N - 14) = N by omega] at this
    exact this
  have h14 : 14 ≤ N := by omega
  clear hl hl12 hl14 hN hh ht hft hf hA
  by_cases hc14 : C = 14
  · subst hc14
    obtain rfl : N = 14 := by omega
    go_enter Yba.func6, Yba.ntmps6
    go_wp2_with fail
    go_region_with (first | (go_at_call 9; refine (HU.out _ _ _ (by omega) (by exact (Below.refl _ _).drew)).mono ?_; rintro e w2 ⟨rfl, hb2⟩) | (go_at_call 8; refine (HP.out _ _ _ (by exact (Below.refl _ _).drew.trans hb2) (by omega) (by omega) (by omega)).mono ?_; rintro e w3 ⟨v3, rfl, hp3, hb3⟩))
    all_goals
      have HB3 : Hid (Below w.heap.size w w3) := (((Below.refl _ w).drew).trans hb2).trans (hb3.mono (by have := hb2.size; simpa using this))
      have HP3 := hid hp3
      clear hp3 hb3 hb2
      go_wp2
      go_ret
      exact ⟨v3, rfl, HP3.out, HB3.out⟩
  · go_enter Yba.func6, Yba.ntmps6
    go_wp2_with fail
    go_region_with (first | (go_at_call 9; refine (HU.out _ _ _ (by omega) (by exact (Below.refl _ _).drew)).mono ?_; rintro e w2 ⟨rfl, hb2⟩) | (go_at_call 8; refine (HP.out _ _ _ (by exact (Below.refl _ _).drew.trans hb2) (fun _ => rfl) (by omega) (by omega)).mono ?_; rintro e w3 ⟨v3, rfl, hp3, hb3⟩))
    all_goals
      have HB3 : Hid (Below w.heap.size w w3) := (((Below.refl _ w).drew).trans hb2).trans (hb3.mono (by have := hb2.size; simpa using this))
      have HP3 := hid hp3
      clear hp3 hb3 hb2
      go_wp2
      go_ret
      exact ⟨v3, rfl, HP3.out, HB3.out⟩

end Go.Proofs.Ybulkbuji
