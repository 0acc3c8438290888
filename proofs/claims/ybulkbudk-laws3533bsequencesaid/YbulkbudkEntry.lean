/- The walk of zzs3533bentry: onto a slice that the call owns it appends the bytes 'enc'. -/
import Derived.Test.YbulkbudkPut
import Derived.Test.YbulkbudkMath
import Derived.WalkKit
import Derived.WalkSpells
import Derived.Lib.AppendStr
namespace Go.Proofs.Ybulkbudk
open Go.RowKit

theorem strCells_eq (s : ByteArray) : Lib.strCells s = Lib.byteCells s.data.toList := rfl
theorem len_toList (s : ByteArray) : s.data.toList.length = s.size := by rw [Array.length_toList]; rfl

theorem byteCells_app (a b : List UInt8) : Lib.byteCells (a ++ b) = Lib.byteCells a ++ Lib.byteCells b := by simp [Lib.byteCells]

set_option maxHeartbeats 1000000 in
theorem entry_no (B n base : Nat) (head tail : Int) (fi : Bool) (mid : ByteArray) (sv : Value) (xs : List Value) (w : World) (hown : w.ownsRow B 5 1 sv n xs) (hBw : B ≤ w.heap.size) (hlim : n + 10 ≤ 140737488355328) :
    Calls Yba.prog 10 #[sv, .int .u64 base, .bool false, .bool fi, .int .u64 head, .int .u64 tail, .string mid] w fun e w' => ∃ v', e = .returned v' ∧ w'.ownsRow B 5 1 v' (n + (Lib.uvarint (tagN base false fi)).length) (xs ++ Lib.byteCells (Lib.uvarint (tagN base false fi))) ∧ Below B w w' := by
  cases fi with
  | false =>
    go_enter Yba.func10, Yba.ntmps10
    go_wp2_with fail
    rw [tag_ff]
    refine (put_own B n (tagN base false false) (tagN_lt _ _ _) sv xs w hown hBw hlim).mono ?_
    rintro e w1 ⟨v1, rfl, hown1, hb1⟩
    go_wp2_with fail
    go_ret
    exact ⟨v1, rfl, hown1, hb1⟩
  | true =>
    go_enter Yba.func10, Yba.ntmps10
    go_wp2_with fail
    rw [tag_ft]
    refine (put_own B n (tagN base false true) (tagN_lt _ _ _) sv xs w hown hBw hlim).mono ?_
    rintro e w1 ⟨v1, rfl, hown1, hb1⟩
    go_wp2_with fail
    go_ret
    exact ⟨v1, rfl, hown1, hb1⟩

set_option maxHeartbeats 1000000 in
theorem entry_yes (B n base head tail : Nat) (hh : head < 18446744073709551616) (ht : tail < 18446744073709551616) (fi : Bool) (mid : ByteArray) (hm : mid.size ≤ 4096) (sv : Value) (xs : List Value) (w : World) (hown : w.ownsRow B 5 1 sv n xs) (hBw : B ≤ w.heap.size) (hlim : n + 10000 ≤ 140737488355328) :
    Calls Yba.prog 10 #[sv, .int .u64 base, .bool true, .bool fi, .int .u64 head, .int .u64 tail, .string mid] w fun e w' => ∃ v', e = .returned v' ∧ w'.ownsRow B 5 1 v' (n + (enc base true fi head tail mid.data.toList).length) (xs ++ Lib.byteCells (enc base true fi head tail mid.data.toList)) ∧ Below B w w' := by
  obtain ⟨i0, hi, hz0, hz1, hz2⟩ := info_parts info5
  have l0 := Lib.uvarint_length64 (tagN_lt base true fi)
  have l1 := Lib.uvarint_length64 hh
  have l2 := Lib.uvarint_length64 ht
  have l3 := Lib.uvarint_length64 (show mid.size < 18446744073709551616 by omega)
  have key : ∀ (sv' : Value) (w' : World), (∃ v', sv' = v' ∧ w'.ownsRow B 5 1 v' (n + (Lib.uvarint (tagN base true fi)).length + (Lib.uvarint head).length + (Lib.uvarint tail).length + (Lib.uvarint mid.size).length + mid.size) (xs ++ Lib.byteCells (Lib.uvarint (tagN base true fi)) ++ Lib.byteCells (Lib.uvarint head) ++ Lib.byteCells (Lib.uvarint tail) ++ Lib.byteCells (Lib.uvarint mid.size) ++ Lib.strCells mid)) → w'.ownsRow B 5 1 sv' (n + (enc base true fi head tail mid.data.toList).length) (xs ++ Lib.byteCells (enc base true fi head tail mid.data.toList)) := by
    rintro sv' w' ⟨_, rfl, h⟩
    have e1 : (enc base true fi head tail mid.data.toList).length = (Lib.uvarint (tagN base true fi)).length + (Lib.uvarint head).length + (Lib.uvarint tail).length + (Lib.uvarint mid.size).length + mid.size := by
      simp only [enc, if_true, List.length_append, len_toList]; omega
    have e2 : Lib.byteCells (enc base true fi head tail mid.data.toList) = Lib.byteCells (Lib.uvarint (tagN base true fi)) ++ Lib.byteCells (Lib.uvarint head) ++ Lib.byteCells (Lib.uvarint tail) ++ Lib.byteCells (Lib.uvarint mid.size) ++ Lib.strCells mid := by
      simp only [enc, if_true, byteCells_app, len_toList, strCells_eq, List.append_assoc]
    rw [e1, e2]
    simpa only [Nat.add_assoc, List.append_assoc] using h
  have HK : Hid (∀ (sv' : Value) (w' : World), (∃ v', sv' = v' ∧ w'.ownsRow B 5 1 v' (n + (Lib.uvarint (tagN base true fi)).length + (Lib.uvarint head).length + (Lib.uvarint tail).length + (Lib.uvarint mid.size).length + mid.size) (xs ++ Lib.byteCells (Lib.uvarint (tagN base true fi)) ++ Lib.byteCells (Lib.uvarint head) ++ Lib.byteCells (Lib.uvarint tail) ++ Lib.byteCells (Lib.uvarint mid.size) ++ Lib.strCells mid)) → w'.ownsRow B 5 1 sv' (n + (enc base true fi head tail mid.data.toList).length) (xs ++ Lib.byteCells (enc base true fi head tail mid.data.toList))) := key
  clear key
  cases fi
  all_goals
    go_enter Yba.func10, Yba.ntmps10
    go_wp2_with fail
    first | rw [tag_tt] | rw [tag_tf]
    refine (put_own B n (tagN base true _) (tagN_lt _ _ _) sv xs w hown hBw (by omega)).mono ?_
    rintro e w1 ⟨v1, rfl, hown1, hb1⟩
    have hs1 := hb1.size
    go_wp2_with fail
    refine (put_own B _ head hh v1 _ w1 hown1 (by omega) (by omega)).mono ?_
    rintro e w2 ⟨v2, rfl, hown2, hb2⟩
    have hs2 := hb2.size
    go_wp2_with fail
    refine (put_own B _ tail ht v2 _ w2 hown2 (by omega) (by omega)).mono ?_
    rintro e w3 ⟨v3, rfl, hown3, hb3⟩
    have hs3 := hb3.size
    go_wp2_with fail
    refine (put_own B _ mid.size (by omega) v3 _ w3 hown3 (by omega) (by omega)).mono ?_
    rintro e w4 ⟨v4, rfl, hown4, hb4⟩
    have hs4 := hb4.size
    go_wp2_with (at_builtin; refine Lib.wpList_append_own_string _ rfl _ _ 41 9 rfl B 5 i0 Yba.underlying41 Yba.underlying9 hi hz0 hz1 hz2 v4 _ _ rfl hown4 mid rfl ?c1 ?c2 ?c3 ?_)
    case c1 => unfold maxLen; omega
    case c2 => omega
    case c3 => omega
    intro v5 w5 hown5 hgrow _
    have hb5 : Below B w w5 := (((hb1.trans hb2).trans hb3).trans hb4).grown hgrow (by omega) (fun k hk => (hown4.lt k hk).1)
    go_wp2
    go_ret
    exact ⟨v5, rfl, HK.out v5 w5 ⟨v5, rfl, by simpa only [List.append_assoc] using hown5⟩, hb5⟩

end Go.Proofs.Ybulkbudk
