/- The three contracts (entry, readMessage, ok), each for both kinds of entry at once. -/
import Derived.Test.YbulkbudkEntry
import Derived.Test.YbulkbudkOk
import Derived.Laws.AppendOwnNone
namespace Go.Proofs.Ybulkbudk
open Go.RowKit

def numI (ed : Bool) (x : Nat) : Int := if ed then wrap64 x else 0
def midI (ed : Bool) (m : ByteArray) : ByteArray := if ed then m else ByteArray.empty

theorem numI_t (x : Nat) : numI true x = wrap64 x := by simp only [numI, if_true]
theorem numI_f (x : Nat) : numI false x = 0 := by simp only [numI, Bool.false_eq_true, if_false]
theorem midI_t (m : ByteArray) : midI true m = m := by simp only [midI, if_true]
theorem midI_f (m : ByteArray) : midI false m = ByteArray.empty := by simp only [midI, Bool.false_eq_true, if_false]
theorem mk_toList (m : ByteArray) : (⟨m.data.toList.toArray⟩ : ByteArray) = m := by simp only [Array.toArray_toList]

theorem entry_any (B n base head tail : Nat) (hh : head < 18446744073709551616) (ht : tail < 18446744073709551616) (ed fi : Bool) (mid : ByteArray) (hm : mid.size ≤ 4096) (sv : Value) (xs : List Value) (w : World) (hown : w.ownsRow B 5 1 sv n xs) (hBw : B ≤ w.heap.size) (hlim : n + 10000 ≤ 140737488355328) :
    Calls Yba.prog 10 #[sv, .int .u64 base, .bool ed, .bool fi, .int .u64 head, .int .u64 tail, .string mid] w fun e w' => ∃ v', e = .returned v' ∧ w'.ownsRow B 5 1 v' (n + (enc base ed fi head tail mid.data.toList).length) (xs ++ Lib.byteCells (enc base ed fi head tail mid.data.toList)) ∧ Below B w w' := by
  cases ed with
  | true => exact entry_yes B n base head tail hh ht fi mid hm sv xs w hown hBw hlim
  | false =>
    have e : enc base false fi head tail mid.data.toList = Lib.uvarint (tagN base false fi) := by simp [enc]
    rw [e]
    exact entry_no B n base head tail fi mid sv xs w hown hBw (by omega)

theorem read_any (g o n c : Nat) (l : List UInt8) (base head tail : Nat) (hh : head < 18446744073709551616) (ht : tail < 18446744073709551616) (ed fi : Bool) (mid : ByteArray) (rest : List UInt8) (hm : mid.size ≤ 4096) (w : World)
    (hl : l.length = n) (hcell : Lies w g o l) (he : l = enc base ed fi head tail mid.data.toList ++ rest) (hnc : n ≤ c) (hc : c ≤ 9223372036854775807) :
    Calls Yba.prog 11 #[.slice (some ⟨g, o, none⟩) n c] w fun e w' => e = .returned (.tuple #[.agg #[.int .i64 (baseI base), .bool ed, .int .i64 (numI ed head), .int .i64 (numI ed tail), .string (midI ed mid)], .bool fi, .int .i64 ((enc base ed fi head tail mid.data.toList).length : Nat)]) ∧ Below w.heap.size w w' := by
  cases ed with
  | true =>
    have h := read_yes g o n c l base head tail hh ht fi mid.data.toList rest (by rw [len_toList]; exact hm) w hl hcell he hnc hc
    rw [mk_toList] at h
    rw [numI_t, numI_t, midI_t]
    exact h
  | false =>
    have e : enc base false fi head tail mid.data.toList = Lib.uvarint (tagN base false fi) := by simp [enc]
    rw [e] at he ⊢
    rw [numI_f, numI_f, midI_f]
    exact read_no g o n c l base fi rest w hl hcell he

theorem ok_any (base head tail : Nat) (ed fi : Bool) (mid : ByteArray) (w : World) :
    Calls Yba.prog 12 #[.agg #[.int .i64 (baseI base), .bool ed, .int .i64 (numI ed head), .int .i64 (numI ed tail), .string (midI ed mid)], .bool fi, .int .u64 base, .bool ed, .bool fi, .int .u64 head, .int .u64 tail, .string mid] w fun e w' => e = .returned (.bool true) ∧ Below w.heap.size w w' := by
  cases ed with
  | true => rw [numI_t, numI_t, midI_t]; exact ok_yes base head tail fi mid w
  | false => rw [numI_f, numI_f, midI_f]; exact ok_no base head tail fi mid w

/-- A row that the call owns, of bytes: they lie there. -/
theorem lies_of_owns {w : World} {B n : Nat} {v : Value} {l : List UInt8} (h : w.ownsRow B 5 1 v n (Lib.byteCells l)) (hn : 1 ≤ n) :
    ∃ g c, v = .slice (some ⟨g, 0, none⟩) n c ∧ n ≤ c ∧ c ≤ 9223372036854775807 ∧ B ≤ g ∧ g < w.heap.size ∧ l.length = n ∧ Lies w g 0 l := by
  have hlen : l.length = n := by have := h.1; simpa [Lib.byteCells] using this
  rcases h.2 with ⟨_, h0⟩ | ⟨g, cap, cur, rfl, hb, hg, hc, hm, _, _⟩
  · omega
  · refine ⟨g, cap, rfl, hc, by simpa [maxLen] using hm, hb, (Array.getElem?_eq_some_iff.1 hg).1, hlen, ?_⟩
    intro j hj
    have := h.cells (g := g) rfl j (.int .u8 (l[j]).toNat) (by simp [Lib.byteCells, List.getElem?_eq_getElem hj])
    have hadd : (⟨g, 0, none⟩ : Addr).add j = ⟨g, 0 + j, none⟩ := by unfold Addr.add; split <;> simp_all
    rw [hadd] at this
    exact this

/-- 'append' onto a row of bytes of the call's own, out of a slice of bytes. -/
theorem app5 {w : World} {ops : Array Oper} {rest : List Oper} {o : Oper} {a : Act} {Q : Exit → Act → World → Prop} (hgd : o.guard = none) (s x : Operand)
    (ho : o.op = .call { callee := .builtin .append, args := #[s, x], argTypes := #[41, 41] })
    (base : Nat) (v : Value) (n : Nat) (xs : List Value) (hs : a.eval s = v) (hown : w.ownsRow base 5 1 v n xs)
    (ad : Addr) (m c : Nat) (news : List Value) (hx : a.eval x = .slice (some ad) m c) (hl : news.length = m * 1) (hnews : ∀ j u, news[j]? = some u → w.cell? (ad.add j) = some u) (h1 : ∀ u ∈ news, u.oneCell' = true)
    (h63 : n + m ≤ maxLen) (hbytes : (n + m) * 1 ≤ 140737488355328) (hbase : base ≤ w.heap.size)
    (h : ∀ v' w', w'.ownsRow base 5 1 v' (n + m) (xs ++ news) → w.grownBy w' v.ownBlock → wpList Yba.prog ops Q rest (a.put o.dst v') w') : wpList Yba.prog ops Q (o :: rest) a w := by
  obtain ⟨i0, hi, hz0, hz1, hz2⟩ := info_parts info5
  exact wpList_append_own w hgd s x 41 ho base 5 i0 (.int .u8 0) 1 1 Yba.underlying41 hi hz0 hz1 hz2 rfl (by decide) v n xs hs hown ad m c news hx hl hnews h1 h63 hbytes hbase (fun v' w' a b _ => h v' w' a b)

/-- .. out of nil. -/
theorem app5_none {w : World} {ops : Array Oper} {rest : List Oper} {o : Oper} {a : Act} {Q : Exit → Act → World → Prop} (hgd : o.guard = none) (s x : Operand)
    (ho : o.op = .call { callee := .builtin .append, args := #[s, x], argTypes := #[41, 41] })
    (base : Nat) (v : Value) (n : Nat) (xs : List Value) (hs : a.eval s = v) (hown : w.ownsRow base 5 1 v n xs) (hx : a.eval x = .slice none 0 0)
    (h : wpList Yba.prog ops Q rest (a.put o.dst v) w) : wpList Yba.prog ops Q (o :: rest) a w := by
  obtain ⟨i0, hi, hz0, hz1, hz2⟩ := info_parts info5
  exact wpList_append_own_none hgd s x 41 ho base 5 i0 1 Yba.underlying41 hi v n xs hs hown hx h

end Go.Proofs.Ybulkbudk
