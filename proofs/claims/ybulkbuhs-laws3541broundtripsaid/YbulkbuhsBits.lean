/- Facts on bytes: plain. -/
import Derived.Laws.BitsAllLaws
import Derived.Lib.Varint
namespace Go.Proofs.Ybulkbuhs

set_option maxRecDepth 100000 in
theorem nand128 : ∀ a : Fin 256, (a.val &&& 128) = if a.val < 128 then 0 else 128 := by decide
set_option maxRecDepth 100000 in
theorem nand127 : ∀ a : Fin 256, (a.val &&& 127) = a.val % 128 := by decide
set_option maxRecDepth 100000 in
theorem nand15 : ∀ a : Fin 256, (a.val &&& 15) = a.val % 16 := by decide
set_option maxRecDepth 100000 in
theorem nand8 : ∀ a : Fin 256, (a.val &&& 8) = a.val / 8 % 2 * 8 := by decide
set_option maxRecDepth 100000 in
theorem nor128 : ∀ a : Fin 128, (128 ||| a.val) = 128 + a.val := by decide

theorem and_lit (a : Nat) (ha : a < 256) (k : Nat) (hk : k < 256) : bits .and .u8 (a : Int) (k : Int) = ((a &&& k : Nat) : Int) := u8_and_nat a k ha hk

theorem and128 (a : Nat) (ha : a < 256) : bits .and .u8 (a : Int) 128 = if a < 128 then 0 else 128 := by
  have h := and_lit a ha 128 (by decide)
  rw [nand128 ⟨a, ha⟩] at h
  have e : ((128 : Nat) : Int) = 128 := rfl
  rw [e] at h
  rw [h]
  simp only []
  split <;> rfl

theorem and127 (a : Nat) (ha : a < 256) : bits .and .u8 (a : Int) 127 = ((a % 128 : Nat) : Int) := by
  have h := and_lit a ha 127 (by decide)
  rw [nand127 ⟨a, ha⟩] at h
  exact h

theorem and15 (a : Nat) (ha : a < 256) : bits .and .u8 (a : Int) 15 = ((a % 16 : Nat) : Int) := by
  have h := and_lit a ha 15 (by decide)
  rw [nand15 ⟨a, ha⟩] at h
  exact h

theorem and8 (a : Nat) (ha : a < 256) : bits .and .u8 (a : Int) 8 = ((a / 8 % 2 * 8 : Nat) : Int) := by
  have h := and_lit a ha 8 (by decide)
  rw [nand8 ⟨a, ha⟩] at h
  exact h

theorem or0 (a : Nat) (ha : a < 256) : bits .or .u8 0 (a : Int) = (a : Int) := by
  have h := u8_or_nat 0 a (by decide) ha
  rw [Nat.zero_or] at h
  exact h

theorem or128l (a : Nat) (ha : a < 128) : bits .or .u8 128 (a : Int) = ((128 + a : Nat) : Int) := by
  have h := u8_or_nat 128 a (by decide) (by omega)
  rw [nor128 ⟨a, ha⟩] at h
  exact h

theorem or128r (a : Nat) (ha : a < 128) : bits .or .u8 (a : Int) 128 = ((a + 128 : Nat) : Int) := by
  rw [Lib.u8_or128_any _ (by omega) (by omega)]
  omega

end Go.Proofs.Ybulkbuhs
