/- Laws for the walk of LawS3541BExact. -/
import Derived.Test.YbulkbuhsMore
import Derived.WalkSmall
namespace Go.Proofs.Ybulkbuhs
open Go.RowKit

/-- What is known of a slice of bytes that came in. -/
structure Pre (w : World) (a : Option Addr) (n cap : Nat) (zs : List Int) : Prop where
  len : zs.length = n
  none : a = none → n = 0 ∧ cap = 0
  cell : ∀ x, a = some x → ∀ j u, (cellsZ zs)[j]? = some u → w.cell? (x.add j) = some u

theorem Pre.below {w w' : World} {a : Option Addr} {n cap : Nat} {zs : List Int} (h : Pre w a n cap zs) (hb : Below w.heap.size w w') : Pre w' a n cap zs :=
  ⟨h.len, h.none, fun x hx j u hu => by have h1 := h.cell x hx j u hu; exact cell_below hb (World.block_lt_of_cell? _ _ h1) h1⟩

theorem Pre.at {w : World} {a : Option Addr} {n cap : Nat} {zs : List Int} (h : Pre w a n cap zs) (hn : 1 ≤ n) : ∃ b o, a = some ⟨b, o, .none⟩ ∧ ∀ j, j < n → w.cell? ⟨b, o + j, .none⟩ = some (.int .u8 (zs.getD j 0)) := by
  have hl := h.len
  cases ha : a with
  | none => have := h.none ha; omega
  | some x =>
    have hc : ∀ j, j < n → w.cell? (x.add j) = some (.int .u8 (zs.getD j 0)) := by
      intro j hj
      have hj' : j < zs.length := by omega
      exact h.cell x ha j _ (by simp [cellsZ, List.getD, List.getElem?_eq_getElem hj'])
    obtain ⟨b, o, spot⟩ := x
    have hspot : spot = .none := by simpa [Addr.add] using World.cell?_spot (hc 0 (by omega))
    subst hspot
    exact ⟨b, o, rfl, fun j hj => by
      have hadd : (⟨b, o, .none⟩ : Addr).add j = ⟨b, o + j, .none⟩ := by unfold Addr.add; split <;> simp_all
      rw [← hadd]; exact hc j hj⟩

/-- zzs3541beq of a row of the call's own and of what came in. -/
theorem eq_pre {w : World} {a : Option Addr} {n cap : Nat} {zs : List Int} (h : Pre w a n cap zs) (g c : Nat) (hn : n ≤ 4096) (hg : ∀ j, j < n → w.cell? ⟨g, 0 + j, none⟩ = some (.int .u8 (zs.getD j 0))) :
    Calls Yba.prog 6 #[.slice (some ⟨g, 0, none⟩) n c, .slice a n cap] w fun e w' => e = .returned (.bool true) ∧ ∃ q, w' = w.drewN q := by
  rcases Nat.eq_zero_or_pos n with h0 | hpos
  · subst h0; exact eq_none _ _ _ _ w
  · obtain ⟨b, o, rfl, hc⟩ := h.at hpos
    exact eq_some g 0 b o n c cap zs w h.len (by omega) hg hc

section
variable {w : World} {ops : Array Oper} {rest : List Oper} {o : Oper} {a : Act} {Q : Exit → Act → World → Prop}
/-- 'append(row, p...)', p a slice that came in. -/
theorem app22_pre (hgd : o.guard = none) (s x : Operand) (ho : o.op = .call { callee := .builtin .append, args := #[s, x], argTypes := #[22, 22] })
    (base : Nat) (v : Value) (n : Nat) (xs : List Value) (hs : a.eval s = v) (hown : w.ownsRow base 5 1 v n xs)
    (ao : Option Addr) (m c : Nat) (zs : List Int) (hx : a.eval x = .slice ao m c) (hp : Pre w ao m c zs) (hbytes : n + m ≤ 140737488355328) (hbase : base ≤ w.heap.size)
    (h : ∀ v' w', w'.ownsRow base 5 1 v' (n + m) (xs ++ cellsZ zs) → Below base w w' → wpList Yba.prog ops Q rest (a.put o.dst v') w') : wpList Yba.prog ops Q (o :: rest) a w := by
  cases ao with
  | none =>
    obtain ⟨rfl, rfl⟩ := hp.none rfl
    have hz : zs = [] := List.eq_nil_of_length_eq_zero hp.len
    subst hz
    exact app22_none hgd s x ho base v n xs hs hown hx (h v w (by simpa [cellsZ] using hown) (Below.refl _ _))
  | some ad => exact app22 hgd s x ho base v n xs hs hown ad m c (cellsZ zs) hx (by rw [cellsZ_length, hp.len]; omega) (hp.cell ad rfl) (cellsZ_one _) hbytes hbase h
end

theorem own_to {w : World} {B k N : Nat} {v : Value} {ys : List Value} {L : List Int} (h : w.ownsRow B 5 1 v k ys) (hk : k = N) (hy : ys = cellsZ L) : w.ownsRow B 5 1 v N (cellsZ L) := by
  subst hk; subst hy; exact h

theorem cell_new4 (w : World) (t : TypeId) (m0 m1 m2 m3 : Int) : ∀ j u, (cellsZ [m0, m1, m2, m3])[j]? = some u → (w.alloc (.cells #[.int .u8 m0, .int .u8 m1, .int .u8 m2, .int .u8 m3] t)).cell? ((⟨w.heap.size, 0, none⟩ : Addr).add j) = some u := by
  intro j u hu
  match j, hu with
  | 0, hu => simp [cellsZ] at hu; subst hu; simp [Addr.add]
  | 1, hu => simp [cellsZ] at hu; subst hu; simp [Addr.add]
  | 2, hu => simp [cellsZ] at hu; subst hu; simp [Addr.add]
  | 3, hu => simp [cellsZ] at hu; subst hu; simp [Addr.add]

theorem be2 (v : Nat) : beZs 2 v = [(v : Int) / 256 % 256, (v : Int) % 256] := by
  simp only [beZs, Lib.beBytes, Lib.leBytes, List.reverse_cons, List.reverse_nil, List.nil_append, List.cons_append, List.map_cons, List.map_nil, Lib.toUInt8_mod]
  simp only [List.cons.injEq, and_true]
  omega
theorem be8 (v : Nat) : beZs 8 v = [(v : Int) / 72057594037927936 % 256, (v : Int) / 281474976710656 % 256, (v : Int) / 1099511627776 % 256, (v : Int) / 4294967296 % 256, (v : Int) / 16777216 % 256, (v : Int) / 65536 % 256, (v : Int) / 256 % 256, (v : Int) % 256] := by
  simp only [beZs, Lib.beBytes, Lib.leBytes, List.reverse_cons, List.reverse_nil, List.nil_append, List.cons_append, List.map_cons, List.map_nil, Lib.toUInt8_mod]
  simp only [List.cons.injEq, and_true, Nat.div_div_eq_div_mul]
  omega

theorem cell_new3 (w : World) (t : TypeId) (z0 z1 z2 : Value) : ∀ j u, [z0, z1, z2][j]? = some u → (w.alloc (.cells #[z0, z1, z2] t)).cell? ((⟨w.heap.size, 0, none⟩ : Addr).add j) = some u := by
  intro j u hu
  match j, hu with
  | 0, hu => simp at hu; subst hu; simp [Addr.add]
  | 1, hu => simp at hu; subst hu; simp [Addr.add]
  | 2, hu => simp at hu; subst hu; simp [Addr.add]

end Go.Proofs.Ybulkbuhs
