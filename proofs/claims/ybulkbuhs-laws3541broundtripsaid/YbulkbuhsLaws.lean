/- Laws on 'append' at []byte of this program, in the walk's form and as a step of a region that draws; a call of a Go function as such a step. -/
import Derived.Test.YbulkbuhsRows
import Derived.Test.YbulkbuhsShelf
import Derived.WalkKit
import Derived.WalkSpells
import Derived.Laws.AppendOwnNone
import Derived.Laws.CopyOwn
import Derived.Deep.RegionLaw
import Derived.Lib.UnsafeStr
namespace Go.Proofs.Ybulkbuhs
open Go.RowKit

theorem hid {p : Prop} (h : p) : Hid p := h
theorem info5 : (Yba.prog.info? 5).map (fun i => (i.zero, i.size, i.bytes)) = some (some (.int .u8 0), 1, 1) := by kernel_rfl

/-- Numbers as cells of bytes. -/
def cellsZ (zs : List Int) : List Value := zs.map (Value.int .u8)
theorem cellsZ_app (a b : List Int) : cellsZ (a ++ b) = cellsZ a ++ cellsZ b := by simp [cellsZ]
theorem cellsZ_length (a : List Int) : (cellsZ a).length = a.length := by simp [cellsZ]
theorem cellsZ_one (a : List Int) : ∀ u ∈ cellsZ a, u.oneCell' = true := ints_oneCell _ _

theorem ownsRow_base {w : World} {B B' : Nat} {e : TypeId} {size : Nat} {v : Value} {n : Nat} {xs : List Value} (h : w.ownsRow B e size v n xs) (hB : B' ≤ B) : w.ownsRow B' e size v n xs := by
  refine ⟨h.1, ?_⟩
  rcases h.2 with h0 | ⟨g, cap, cur, rfl, hb, rest⟩
  · exact .inl h0
  · exact .inr ⟨g, cap, cur, rfl, by omega, rest⟩

/-- A slice whose capacity is used up (nil too), and what it holds. -/
def Full (w : World) (v : Value) (n : Nat) (xs : List Value) : Prop :=
  ∃ ao, v = .slice ao n n ∧ (ao = none → n = 0) ∧ xs.length = n ∧ (∀ b, ao = some b → ∀ j u, xs[j]? = some u → w.cell? (b.add j) = some u)

theorem Full.alloc {w : World} {v : Value} {n : Nat} {xs : List Value} (h : Full w v n xs) (o : Obj) : Full (w.alloc o) v n xs := by
  obtain ⟨ao, rfl, h0, hl, hc⟩ := h
  refine ⟨ao, rfl, h0, hl, fun b hb j u hu => ?_⟩
  have := hc b hb j u hu
  rw [World.cell?_of_block (w := w) (a := b.add j) (Below.heap_alloc w o _ (World.block_lt_of_cell? _ _ this))]
  exact this

section
variable {w : World} {ops : Array Oper} {rest : List Oper} {o : Oper} {a : Act} {Q : Exit → Act → World → Prop}

theorem app22 (hgd : o.guard = none) (s x : Operand) (ho : o.op = .call { callee := .builtin .append, args := #[s, x], argTypes := #[22, 22] })
    (base : Nat) (v : Value) (n : Nat) (xs : List Value) (hs : a.eval s = v) (hown : w.ownsRow base 5 1 v n xs)
    (ad : Addr) (m c : Nat) (news : List Value) (hx : a.eval x = .slice (some ad) m c) (hl : news.length = m * 1) (hnews : ∀ j u, news[j]? = some u → w.cell? (ad.add j) = some u) (h1 : ∀ u ∈ news, u.oneCell' = true)
    (hbytes : n + m ≤ 140737488355328) (hbase : base ≤ w.heap.size)
    (h : ∀ v' w', w'.ownsRow base 5 1 v' (n + m) (xs ++ news) → Below base w w' → wpList Yba.prog ops Q rest (a.put o.dst v') w') : wpList Yba.prog ops Q (o :: rest) a w := by
  obtain ⟨i0, hi, hz0, hz1, hz2⟩ := info_parts info5
  exact wpList_append_own w hgd s x 22 ho base 5 i0 (.int .u8 0) 1 1 Yba.underlying22 hi hz0 hz1 hz2 rfl (by decide) v n xs hs hown ad m c news hx hl hnews h1 (by unfold maxLen; omega) (by omega) hbase
    (fun v' w' hown' hg _ => h v' w' hown' ((Below.refl base w).grown hg hbase (fun k hk => (hown.lt k hk).1)))

theorem app22_none (hgd : o.guard = none) (s x : Operand) (ho : o.op = .call { callee := .builtin .append, args := #[s, x], argTypes := #[22, 22] })
    (base : Nat) (v : Value) (n : Nat) (xs : List Value) (hs : a.eval s = v) (hown : w.ownsRow base 5 1 v n xs) (hx : a.eval x = .slice none 0 0)
    (h : wpList Yba.prog ops Q rest (a.put o.dst v) w) : wpList Yba.prog ops Q (o :: rest) a w := by
  obtain ⟨i0, hi, hz0, hz1, hz2⟩ := info_parts info5
  exact wpList_append_own_none hgd s x 22 ho base 5 i0 1 Yba.underlying22 hi v n xs hs hown hx h

theorem app22_full (hgd : o.guard = none) (s x : Operand) (ho : o.op = .call { callee := .builtin .append, args := #[s, x], argTypes := #[22, 22] })
    (v : Value) (n : Nat) (xs : List Value) (hs : a.eval s = v) (hr : Full w v n xs)
    (ad : Addr) (m c : Nat) (news : List Value) (hx : a.eval x = .slice (some ad) m c) (hl : news.length = m * 1) (hnews : ∀ j u, news[j]? = some u → w.cell? (ad.add j) = some u) (h1 : ∀ u ∈ news, u.oneCell' = true) (hm : 1 ≤ m)
    (hbytes : n + m ≤ 140737488355328)
    (h : ∀ v' w', w'.ownsRow w.heap.size 5 1 v' (n + m) (xs ++ news) → Below w.heap.size w w' → wpList Yba.prog ops Q rest (a.put o.dst v') w') : wpList Yba.prog ops Q (o :: rest) a w := by
  obtain ⟨ao, rfl, h0, hxl, hc⟩ := hr
  obtain ⟨i0, hi, hz0, hz1, hz2⟩ := info_parts info5
  exact wpList_append_grows w hgd s x 22 ho 5 i0 (.int .u8 0) 1 1 Yba.underlying22 hi hz0 hz1 hz2 rfl (by decide) ao n n xs hs (fun e => ⟨h0 e, h0 e⟩) (by simpa using hxl) hc ad m c news hx hl hnews h1 (by omega) (by unfold maxLen; omega) (by omega)
    (fun v' w' hown' hg => h v' w' hown' ((Below.refl w.heap.size w).grown hg (Nat.le_refl _) (fun k hk => by cases hk)))

variable {K : Act → World → Prop} {E : Prop}

/-- 'append' onto a row of the call's own, as a step of a region that draws. -/
theorem step_app22 (hgd : o.guard = none) (s x : Operand) (ho : o.op = .call { callee := .builtin .append, args := #[s, x], argTypes := #[22, 22] })
    (base : Nat) (v : Value) (n : Nat) (xs : List Value) (hs : a.eval s = v) (hown : w.ownsRow base 5 1 v n xs)
    (ad : Addr) (m c : Nat) (news : List Value) (hx : a.eval x = .slice (some ad) m c) (hl : news.length = m * 1) (hnews : ∀ j u, news[j]? = some u → w.cell? (ad.add j) = some u) (h1 : ∀ u ∈ news, u.oneCell' = true)
    (hbytes : n + m ≤ 140737488355328) (hbase : base ≤ w.heap.size)
    (h : ∀ v' w', w'.ownsRow base 5 1 v' (n + m) (xs ++ news) → Below base w w' → K (a.put o.dst v') w') :
    if Region.wanted o (yielded ops a.tmps) = true then Oper.wp Yba.prog o a w K Q else E := by
  have hw : Region.wanted o (yielded ops a.tmps) = true := by simp [Region.wanted, hgd]
  rw [if_pos hw]
  obtain ⟨i0, hi, hz0, hz1, hz2⟩ := info_parts info5
  obtain ⟨v', w', hrun, r1, r2, _⟩ := run_append_own (P := Yba.prog) w base 22 o.type 5 i0 (.int .u8 0) 1 1 Yba.underlying22 hi hz0 hz1 hz2 rfl (by decide) v n xs hown ad m c news hl hnews h1 (by unfold maxLen; omega) (by omega) hbase
  unfold Oper.wp
  simp [execOp, ho, resolve, invoke, builtin, hs, hx, hrun, Result.andThen]
  exact h v' w' r1 ((Below.refl base w).grown r2 hbase (fun k hk => (hown.lt k hk).1))

/-- A call of a Go function by its contract, as a step of a region that draws. -/
theorem step_call (hgd : o.guard = none) (f : FuncId) (xs : Array Operand) (ats : Array TypeId) (ho : o.op = .call { callee := .value (.func f), args := xs, argTypes := ats })
    (args : Array Value) (hargs : xs.map a.eval = args) (hent : ∀ W : World, (callFunc f args).run Yba.prog W = .ok (.enter f args) W) (R : Value → World → Prop)
    (hC : Calls Yba.prog f args w fun e w' => ∃ v, e = .returned v ∧ R v w') (h : ∀ v w', R v w' → K (a.put o.dst v) w') :
    if Region.wanted o (yielded ops a.tmps) = true then Oper.wp Yba.prog o a w K Q else E := by
  have hw : Region.wanted o (yielded ops a.tmps) = true := by simp [Region.wanted, hgd]
  rw [if_pos hw]
  have he : execOp a.eval o = callFunc f args := by
    subst hargs
    simp only [execOp, ho]
    exact (execOp_call_go a none f xs ats 0 "" #[] none).trans (by simp)
  unfold Oper.wp
  rw [he, hent w, Oper.upon_enter]
  refine hC.mono ?_
  rintro e w' ⟨v, rfl, hR⟩
  exact h v w' hR
end

end Go.Proofs.Ybulkbuhs
