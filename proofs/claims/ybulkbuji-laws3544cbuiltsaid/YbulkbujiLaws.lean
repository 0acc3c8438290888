/- Laws on 'append' and 'make' at []byte of this program, in the walk's form; rows of bytes and what they hold. -/
import Derived.Test.YbulkbujiRows
import Derived.Test.YbulkbujiShelf
import Derived.WalkKit
import Derived.WalkSpells
import Derived.Laws.AppendOwnNone
import Derived.Laws.CopyOwn
import Derived.Deep.RegionLaw
import Derived.Lib.UnsafeStr
namespace Go.Proofs.Ybulkbuji
open Go.RowKit

theorem hid {p : Prop} (h : p) : Hid p := h
theorem info5 : (Yba.prog.info? 5).map (fun i => (i.zero, i.size, i.bytes)) = some (some (.int .u8 0), 1, 1) := by kernel_rfl

/-- Numbers as cells of bytes. -/
def cellsZ (zs : List Int) : List Value := zs.map (Value.int .u8)
theorem cellsZ_app (a b : List Int) : cellsZ (a ++ b) = cellsZ a ++ cellsZ b := by simp [cellsZ]
theorem cellsZ_length (a : List Int) : (cellsZ a).length = a.length := by simp [cellsZ]
theorem cellsZ_one (a : List Int) : ∀ u ∈ cellsZ a, u.oneCell' = true := ints_oneCell _ _

section
variable {w : World} {ops : Array Oper} {rest : List Oper} {o : Oper} {a : Act} {Q : Exit → Act → World → Prop}

theorem app22 (hgd : o.guard = none) (s x : Operand) (ho : o.op = .call { callee := .builtin .append, args := #[s, x], argTypes := #[22, 22] })
    (base : Nat) (v : Value) (n : Nat) (xs : List Value) (hs : a.eval s = v) (hown : w.ownsRow base 5 1 v n xs)
    (ad : Addr) (m c : Nat) (news : List Value) (hx : a.eval x = .slice (some ad) m c) (hl : news.length = m * 1) (hnews : ∀ j u, news[j]? = some u → w.cell? (ad.add j) = some u) (h1 : ∀ u ∈ news, u.oneCell' = true)
    (hbytes : n + m ≤ 140737488355328) (hbase : base ≤ w.heap.size)
    (h : ∀ v' w', w'.ownsRow base 5 1 v' (n + m) (xs ++ news) → Below base w w' → wpList Yba.prog ops Q rest (a.put o.dst v') w') : wpList Yba.prog ops Q (o :: rest) a w := by
  obtain ⟨i0, hi, hz0, hz1, hz2⟩ := info_parts info5
  exact wpList_append_own w hgd s x 22 ho base 5 i0 (.int .u8 0) 1 1 Yba.underlying22 hi hz0 hz1 hz2 rfl (by decide) v n xs hs hown ad m c news hx hl hnews h1 (by unfold maxLen; omega) (by omega) hbase
    (fun v' w' hown' hg _ => h v' w' hown' ((Below.refl base w).grown hg hbase (fun k hk => (hown.lt k hk).1)))

theorem app22_none (hgd : o.guard = none) (s x : Operand) (ho : o.op = .call { callee := .builtin .append, args := #[s, x], argTypes := #[22, 22] })
    (base : Nat) (v : Value) (n : Nat) (xs : List Value) (hs : a.eval s = v) (hown : w.ownsRow base 5 1 v n xs) (hx : a.eval x = .slice none 0 0)
    (h : wpList Yba.prog ops Q rest (a.put o.dst v) w) : wpList Yba.prog ops Q (o :: rest) a w := by
  obtain ⟨i0, hi, hz0, hz1, hz2⟩ := info_parts info5
  exact wpList_append_own_none hgd s x 22 ho base 5 i0 1 Yba.underlying22 hi v n xs hs hown hx h

/-- 'make([]byte, 0, n)'. -/
theorem make22_own (hg : o.guard = none) (l c : Operand) (hop : o.op = Op.makeSlice 22 l c) (kl kc : IntKind) (C : Int) (n : Nat) (hl : a.eval l = .int kl 0) (hc : a.eval c = .int kc C) (hC : C = (n : Int)) (hn : n ≤ 16384)
    (hK : ∀ w', w'.ownsRow w.heap.size 5 1 (.slice (some ⟨w.heap.size, 0, none⟩) 0 n) 0 [] → Below w.heap.size w w' → wpList Yba.prog ops Q rest (a.put o.dst (.slice (some ⟨w.heap.size, 0, none⟩) 0 n)) w') :
    wpList Yba.prog ops Q (o :: rest) a w := by
  obtain ⟨i0, hi, hz0, hz1, hz2⟩ := info_parts info5
  exact wpList_make_own w hg l c 22 hop w.heap.size 5 i0 (.int .u8 0) 1 Yba.underlying22 hi hz0 hz1 kl kc C n hl hc hC (by rw [hz2]; omega) (by unfold maxLen; omega) (Nat.le_refl _)
    (fun w' h1 h2 => hK w' h1 ((Below.refl _ _).grown h2 (Nat.le_refl _) (fun k hk => by cases hk)))

end

theorem cell_new1 (w : World) (z : Value) (t : TypeId) (k : Nat) (hk : k = w.heap.size) : ∀ j u, [z][j]? = some u → (w.alloc (.cells #[z] t)).cell? ((⟨k, 0, none⟩ : Addr).add j) = some u := by
  subst hk; exact cell_one_new _ _ _

/-- A cell that was there is there in a world below which nothing turned. -/
theorem cell_below {B : Nat} {w w' : World} (hb : Below B w w') {p : Addr} {u : Value} (hp : p.block < B) (h : w.cell? p = some u) : w'.cell? p = some u := by rw [hb.cell hp]; exact h

/-- A row of bytes that the call owns, and is not empty: where it lies and what its cells hold. -/
theorem own_cells {w : World} {B k : Nat} {v : Value} {L : List Int} (h : w.ownsRow B 5 1 v k (cellsZ L)) (hk : 1 ≤ k) :
    ∃ g c, v = .slice (some ⟨g, 0, none⟩) k c ∧ k ≤ c ∧ c ≤ 9223372036854775807 ∧ B ≤ g ∧ g < w.heap.size ∧ L.length = k ∧ ∀ j, j < k → w.cell? ⟨g, 0 + j, none⟩ = some (.int .u8 (L.getD j 0)) := by
  have hlen : L.length = k := by have := h.1; simpa [cellsZ] using this
  rcases h.2 with ⟨_, h0⟩ | ⟨g, cap, cur, rfl, hb, hg, hc, hm, _, _⟩
  · omega
  · refine ⟨g, cap, rfl, hc, by simpa [maxLen] using hm, hb, (Array.getElem?_eq_some_iff.1 hg).1, hlen, ?_⟩
    intro j hj
    have hj' : j < L.length := by omega
    have := h.cells (g := g) rfl j (.int .u8 (L.getD j 0)) (by simp [cellsZ, List.getD, List.getElem?_eq_getElem hj'])
    have hadd : (⟨g, 0, none⟩ : Addr).add j = ⟨g, 0 + j, none⟩ := by unfold Addr.add; split <;> simp_all
    rw [hadd] at this
    exact this

/-- What is known of a slice of bytes that came in. -/
structure Pre (w : World) (a : Option Addr) (n cap : Nat) (zs : List Int) : Prop where
  len : zs.length = n
  none : a = none → n = 0 ∧ cap = 0
  cell : ∀ x, a = some x → ∀ j u, (cellsZ zs)[j]? = some u → w.cell? (x.add j) = some u

theorem Pre.below {w w' : World} {a : Option Addr} {n cap : Nat} {zs : List Int} (h : Pre w a n cap zs) (hb : Below w.heap.size w w') : Pre w' a n cap zs :=
  ⟨h.len, h.none, fun x hx j u hu => by have h1 := h.cell x hx j u hu; exact cell_below hb (World.block_lt_of_cell? _ _ h1) h1⟩

theorem Pre.at {w : World} {a : Option Addr} {n cap : Nat} {zs : List Int} (h : Pre w a n cap zs) (hn : 1 ≤ n) : ∃ b o, a = some ⟨b, o, .none⟩ ∧ ∀ j, j < n → w.cell? ⟨b, o + j, .none⟩ = some (.int .u8 (zs.getD j 0)) := by
  have hl := h.len
  cases ha : a with
  | none => have := h.none ha; omega
  | some x =>
    have hc : ∀ j, j < n → w.cell? (x.add j) = some (.int .u8 (zs.getD j 0)) := by
      intro j hj
      have hj' : j < zs.length := by omega
      exact h.cell x ha j _ (by simp [cellsZ, List.getD, List.getElem?_eq_getElem hj'])
    obtain ⟨b, o, spot⟩ := x
    have hspot : spot = .none := by simpa [Addr.add] using World.cell?_spot (hc 0 (by omega))
    subst hspot
    exact ⟨b, o, rfl, fun j hj => by
      have hadd : (⟨b, o, .none⟩ : Addr).add j = ⟨b, o + j, .none⟩ := by unfold Addr.add; split <;> simp_all
      rw [← hadd]; exact hc j hj⟩

section
variable {w : World} {ops : Array Oper} {rest : List Oper} {o : Oper} {a : Act} {Q : Exit → Act → World → Prop}
/-- 'append(row, p...)', p a slice that came in. -/
theorem app22_pre (hgd : o.guard = none) (s x : Operand) (ho : o.op = .call { callee := .builtin .append, args := #[s, x], argTypes := #[22, 22] })
    (base : Nat) (v : Value) (n : Nat) (xs : List Value) (hs : a.eval s = v) (hown : w.ownsRow base 5 1 v n xs)
    (ao : Option Addr) (m c : Nat) (zs : List Int) (hx : a.eval x = .slice ao m c) (hp : Pre w ao m c zs) (hbytes : n + m ≤ 140737488355328) (hbase : base ≤ w.heap.size)
    (h : ∀ v' w', w'.ownsRow base 5 1 v' (n + m) (xs ++ cellsZ zs) → Below base w w' → wpList Yba.prog ops Q rest (a.put o.dst v') w') : wpList Yba.prog ops Q (o :: rest) a w := by
  cases ao with
  | none =>
    obtain ⟨rfl, rfl⟩ := hp.none rfl
    have hz : zs = [] := List.eq_nil_of_length_eq_zero hp.len
    subst hz
    exact app22_none hgd s x ho base v n xs hs hown hx (h v w (by simpa [cellsZ] using hown) (Below.refl _ _))
  | some ad => exact app22 hgd s x ho base v n xs hs hown ad m c (cellsZ zs) hx (by rw [cellsZ_length, hp.len]; omega) (hp.cell ad rfl) (cellsZ_one _) hbytes hbase h
end

theorem own_to {w : World} {B k N : Nat} {v : Value} {ys : List Value} {L : List Int} (h : w.ownsRow B 5 1 v k ys) (hk : k = N) (hy : ys = cellsZ L) : w.ownsRow B 5 1 v N (cellsZ L) := by
  subst hk; subst hy; exact h

end Go.Proofs.Ybulkbuji
