/-
  Plain mathematics for seat b3533a: what 'Lib.uvarint' writes, 'Lib.uvarintDec' reads. No Go in sight.
-/
import Derived.Lib.VarintDec
import Derived.Lib.VarintMem
import Derived.Laws.BitsAllLaws
namespace Go.Proofs.Ybulkbudk
open Go.Lib

theorem pow7 (i : Nat) : (2 : Nat) ^ (7 * (i + 1)) = 128 * 2 ^ (7 * i) := by
  rw [Nat.mul_add, Nat.pow_add, Nat.mul_comm]

theorem decFrom (x : Nat) : ∀ (i acc : Nat) (rest : List UInt8), i + (uvarint x).length ≤ 10 → x * 2 ^ (7 * i) < 18446744073709551616 →
    uvarintFrom i acc (uvarint x ++ rest) = (acc + x * 2 ^ (7 * i), ((i + (uvarint x).length : Nat) : Int)) := by
  induction x using Nat.strongRecOn with
  | ind x ih =>
    intro i acc rest hi hx
    by_cases h : x < 128
    · rw [uvarint_small h] at hi ⊢
      have hb : (x.toUInt8).toNat = x := toUInt8_toNat (by omega)
      simp only [List.length_singleton] at hi
      simp only [List.cons_append, List.nil_append, uvarintFrom, hb, List.length_singleton]
      rw [if_neg (by omega), if_pos h]
      have h9 : ¬ (i = 9 ∧ 1 < x) := by
        rintro ⟨rfl, h1⟩
        have e : (2 : Nat) ^ (7 * 9) = 9223372036854775808 := by decide
        rw [e] at hx
        omega
      rw [if_neg h9]
      simp
    · rw [uvarint_big (by omega)] at hi ⊢
      have hb : ((x % 128 + 128).toUInt8).toNat = x % 128 + 128 := toUInt8_toNat (by omega)
      simp only [List.length_cons] at hi
      simp only [List.cons_append, uvarintFrom, hb, List.length_cons]
      have hp := uvarint_pos (x / 128)
      rw [if_neg (by omega), if_neg (by omega)]
      have e2 : (x % 128 + 128) % 128 = x % 128 := by omega
      have hdm : 128 * (x / 128) + x % 128 = x := Nat.div_add_mod x 128
      have key : x % 128 * 2 ^ (7 * i) + x / 128 * 2 ^ (7 * (i + 1)) = x * 2 ^ (7 * i) := by
        rw [pow7, ← Nat.mul_assoc, ← Nat.add_mul, Nat.mul_comm (x / 128) 128, Nat.add_comm, hdm]
      rw [ih (x / 128) (by omega) (i + 1) _ rest (by omega) (by omega), e2, Nat.add_assoc, key]
      simp only [Prod.mk.injEq, true_and]
      omega

/-- What is encoded is what is decoded, whatever follows. -/
theorem dec_enc (x : Nat) (hx : x < 18446744073709551616) (rest : List UInt8) :
    uvarintDec (uvarint x ++ rest) = (x, ((uvarint x).length : Int)) := by
  have hl := uvarint_length64 hx
  unfold uvarintDec
  rw [decFrom x 0 0 rest (by omega) (by simpa using hx)]
  simp

/-- The tag: the index times four (as a uint64), two more where edited, one more where the file is written. -/
def tagN (base : Nat) (ed fi : Bool) : Nat := base * 4 % 18446744073709551616 + (if ed then 2 else 0) + (if fi then 1 else 0)

theorem tagN_lt (base : Nat) (ed fi : Bool) : tagN base ed fi < 18446744073709551616 := by
  unfold tagN; cases ed <;> cases fi <;> simp <;> omega

theorem wrap4 (base : Nat) : IntKind.u64.wrap ((base : Int) * 4) = ((base * 4 % 18446744073709551616 : Nat) : Int) := by
  rw [IntKind.wrap_u64]; omega

theorem or_two (t : Nat) (h4 : t % 4 = 0) (ht : t < 18446744073709551616) : bits .or .u64 (t : Int) 2 = ((t + 2 : Nat) : Int) := by
  have h := u64_or_nat t 2 ht (by omega)
  have e : ((2 : Nat) : Int) = 2 := rfl
  rw [e] at h
  rw [h]
  have hq : t = 2 ^ 2 * (t / 4) := by omega
  have h2 := Nat.two_pow_add_eq_or_of_lt (i := 2) (b := 2) (by decide) (t / 4)
  rw [← hq] at h2
  rw [← h2]

theorem or_one (t : Nat) (h2 : t % 2 = 0) (ht : t < 18446744073709551616) : bits .or .u64 (t : Int) 1 = ((t + 1 : Nat) : Int) := by
  have h := u64_or_nat t 1 ht (by omega)
  have e : ((1 : Nat) : Int) = 1 := rfl
  rw [e] at h
  rw [h]
  have hq : t = 2 ^ 1 * (t / 2) := by omega
  have h3 := Nat.two_pow_add_eq_or_of_lt (i := 1) (b := 1) (by decide) (t / 2)
  rw [← hq] at h3
  rw [← h3]

theorem tag_ff (base : Nat) : IntKind.u64.wrap ((base : Int) * 4) = ((tagN base false false : Nat) : Int) := by rw [wrap4]; simp [tagN]
theorem tag_tf (base : Nat) : bits .or .u64 (IntKind.u64.wrap ((base : Int) * 4)) 2 = ((tagN base true false : Nat) : Int) := by
  rw [wrap4, or_two _ (by omega) (by omega)]; simp [tagN]
theorem tag_ft (base : Nat) : bits .or .u64 (IntKind.u64.wrap ((base : Int) * 4)) 1 = ((tagN base false true : Nat) : Int) := by
  rw [wrap4, or_one _ (by omega) (by omega)]; simp [tagN]
theorem tag_tt (base : Nat) : bits .or .u64 (bits .or .u64 (IntKind.u64.wrap ((base : Int) * 4)) 2) 1 = ((tagN base true true : Nat) : Int) := by
  rw [wrap4, or_two _ (by omega) (by omega), or_one _ (by omega) (by omega)]; simp [tagN]

theorem tagN_and2 (base : Nat) (ed fi : Bool) : bits .and .u64 ((tagN base ed fi : Nat) : Int) 2 = if ed then 2 else 0 := by
  have h := u64_and_nat (tagN base ed fi) 2 (tagN_lt _ _ _) (by omega)
  have e : ((2 : Nat) : Int) = 2 := rfl
  rw [e] at h
  rw [h, show tagN base ed fi &&& 2 = tagN base ed fi % 4 / 2 * 2 from nat_midmask 2 1 _ (by decide)]
  unfold tagN; cases ed <;> cases fi <;> simp <;> omega

theorem tagN_and1 (base : Nat) (ed fi : Bool) : bits .and .u64 ((tagN base ed fi : Nat) : Int) 1 = if fi then 1 else 0 := by
  have h := u64_and_nat (tagN base ed fi) 1 (tagN_lt _ _ _) (by omega)
  have e : ((1 : Nat) : Int) = 1 := rfl
  rw [e] at h
  rw [h, Nat.and_one_is_mod]
  unfold tagN; cases ed <;> cases fi <;> simp <;> omega

theorem tagN_div (base : Nat) (ed fi : Bool) : tagN base ed fi / 4 = base * 4 % 18446744073709551616 / 4 := by
  unfold tagN; cases ed <;> cases fi <;> simp <;> omega

/-- The bytes of one entry's head. -/
def enc (base : Nat) (ed fi : Bool) (head tail : Nat) (mid : List UInt8) : List UInt8 :=
  uvarint (tagN base ed fi) ++ (if ed then uvarint head ++ (uvarint tail ++ (uvarint mid.length ++ mid)) else [])

theorem enc_pos (base : Nat) (ed fi : Bool) (head tail : Nat) (mid : List UInt8) : 1 ≤ (enc base ed fi head tail mid).length := by
  have := uvarint_pos (tagN base ed fi)
  simp [enc]; omega

theorem enc_le (base : Nat) (ed fi : Bool) (head tail : Nat) (mid : List UInt8) (hh : head < 18446744073709551616) (ht : tail < 18446744073709551616) (hm : mid.length < 18446744073709551616) :
    (enc base ed fi head tail mid).length ≤ 40 + mid.length := by
  have h1 := uvarint_length64 (tagN_lt base ed fi)
  have h2 := uvarint_length64 hh
  have h3 := uvarint_length64 ht
  have h4 := uvarint_length64 hm
  unfold enc
  cases ed <;> simp <;> omega

end Go.Proofs.Ybulkbudk
