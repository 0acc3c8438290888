/- 'make' and 'copy' at []byte of this program; rows of bytes and what they hold. -/
import Derived.Test.YbulkbuhsAfh
import Derived.Test.YbulkbuhsEq
import Derived.Deep.OwnRows
namespace Go.Proofs.Ybulkbuhs
open Go.RowKit

theorem size5 : (Yba.prog.info? 5).map (·.size) = some 1 := by kernel_rfl

section
variable {w : World} {ops : Array Oper} {rest : List Oper} {o : Oper} {a : Act} {Q : Exit → Act → World → Prop}

/-- 'make([]byte, n)': a new row. -/
theorem make22 (hg : o.guard = none) (l c : Operand) (hop : o.op = Op.makeSlice 22 l c) (kl kc : IntKind) (n : Nat) (hl : a.eval l = .int kl n) (hc : a.eval c = .int kc n) (hn : n ≤ 4096)
    (hK : ∀ w', w'.heap[w.heap.size]? = some (.cells (madeCells #[.int .u8 0] n) 5 (0, 0)) → w'.heap.size = w.heap.size + 1 → Below w.heap.size w w' → wpList Yba.prog ops Q rest (a.put o.dst (.slice (some ⟨w.heap.size, 0, none⟩) n n)) w') :
    wpList Yba.prog ops Q (o :: rest) a w := by
  refine wpList_plain hg fun K hK' => ?_
  have hrun := run_make_row' (P := Yba.prog) 22 5 (.int .u8 0) 1 Yba.underlying22 info5 rfl kl kc n (by omega) (by omega) w
  unfold Oper.wp
  simp [execOp, hop, hl, hc, hrun, Result.andThen]
  exact hK' _ _ (hK _ (heap_alloc_new w _) (by simp) ((Below.refl _ _).alloc (Nat.le_refl _) _))

/-- 'make([]byte, 0, n)'. -/
theorem make22_own (hg : o.guard = none) (l c : Operand) (hop : o.op = Op.makeSlice 22 l c) (kl kc : IntKind) (C : Int) (n : Nat) (hl : a.eval l = .int kl 0) (hc : a.eval c = .int kc C) (hC : C = (n : Int)) (hn : n ≤ 16384)
    (hK : ∀ w', w'.ownsRow w.heap.size 5 1 (.slice (some ⟨w.heap.size, 0, none⟩) 0 n) 0 [] → Below w.heap.size w w' → wpList Yba.prog ops Q rest (a.put o.dst (.slice (some ⟨w.heap.size, 0, none⟩) 0 n)) w') :
    wpList Yba.prog ops Q (o :: rest) a w := by
  obtain ⟨i0, hi, hz0, hz1, hz2⟩ := info_parts info5
  exact wpList_make_own w hg l c 22 hop w.heap.size 5 i0 (.int .u8 0) 1 Yba.underlying22 hi hz0 hz1 kl kc C n hl hc hC (by rw [hz2]; omega) (by unfold maxLen; omega) (Nat.le_refl _)
    (fun w' h1 h2 => hK w' h1 ((Below.refl _ _).grown h2 (Nat.le_refl _) (fun k hk => by cases hk)))

/-- 'copy(dst, src)' over the whole of a row. -/
theorem copy22 (hgd : o.guard = none) (d s : Operand) (ho : o.op = .call { callee := .builtin .copy, args := #[d, s], argTypes := #[22, 22] })
    (g n c : Nat) (sp : Option Addr) (cur : Array Value) (hd : a.eval d = .slice (some ⟨g, 0, none⟩) n n) (hs : a.eval s = .slice sp n c) (hg : w.heap[g]? = some (.cells cur 5 (0, 0))) (hcur : cur.size = n)
    (cs : List Value) (hcs : cs.length = n) (hnone : sp = none → n = 0) (hsrc : ∀ ad, sp = some ad → ∀ j v, cs[j]? = some v → w.cell? (ad.add j) = some v) (h1 : ∀ v ∈ cs, v.oneCell' = true)
    (h : ∀ w', w'.heap[g]? = some (.cells cs.toArray 5 (0, 0)) → Below g w w' → wpList Yba.prog ops Q rest (a.put o.dst (goInt n)) w') : wpList Yba.prog ops Q (o :: rest) a w := by
  refine wpList_copy_splice hgd d s 22 22 ho 5 Yba.underlying22 size5 (some ⟨g, 0, none⟩) sp n n n c hd hs g 0 cur.toList 5 (by simpa using hg) cs (by simp [hcs]) ?_ (by simp [hcs, hcur]) h1 g w (Below.refl _ _) (Nat.le_refl _) ?_
  · intro hp
    cases sp with
    | none => have := hnone rfl; omega
    | some ad => exact ⟨rfl, ad, rfl, hsrc ad rfl⟩
  · intro w' hg' hb'
    have e : splice cur.toList 0 cs = cs := by
      have : cur.toList.length ≤ 0 + cs.length := by simp [hcs, hcur]
      simp only [splice, List.take_zero, List.nil_append]
      rw [List.drop_of_length_le this, List.append_nil]
    have hg2 := hg'.out
    rw [e] at hg2
    rw [hcs]
    exact h w' hg2 hb'
end

/-- A row of bytes that the call owns, and is not empty: where it lies and what its cells hold. -/
theorem own_cells {w : World} {B k : Nat} {v : Value} {L : List Int} (h : w.ownsRow B 5 1 v k (cellsZ L)) (hk : 1 ≤ k) :
    ∃ g c, v = .slice (some ⟨g, 0, none⟩) k c ∧ k ≤ c ∧ c ≤ 9223372036854775807 ∧ B ≤ g ∧ g < w.heap.size ∧ L.length = k ∧ ∀ j, j < k → w.cell? ⟨g, 0 + j, none⟩ = some (.int .u8 (L.getD j 0)) := by
  have hlen : L.length = k := by have := h.1; simpa [cellsZ] using this
  rcases h.2 with ⟨_, h0⟩ | ⟨g, cap, cur, rfl, hb, hg, hc, hm, _, _⟩
  · omega
  · refine ⟨g, cap, rfl, hc, by simpa [maxLen] using hm, hb, (Array.getElem?_eq_some_iff.1 hg).1, hlen, ?_⟩
    intro j hj
    have hj' : j < L.length := by omega
    have := h.cells (g := g) rfl j (.int .u8 (L.getD j 0)) (by simp [cellsZ, List.getD, List.getElem?_eq_getElem hj'])
    have hadd : (⟨g, 0, none⟩ : Addr).add j = ⟨g, 0 + j, none⟩ := by unfold Addr.add; split <;> simp_all
    rw [hadd] at this
    exact this

/-- The cells of a block that is known whole. -/
theorem block_cells {w : World} {g : Nat} {L : List Int} (hg : w.heap[g]? = some (.cells (cellsZ L).toArray 5 (0, 0))) : ∀ j, j < L.length → w.cell? ⟨g, 0 + j, none⟩ = some (.int .u8 (L.getD j 0)) := by
  intro j hj
  rw [Nat.zero_add, cell_of_row w g j _ 5 (0, 0) hg]
  simp [cellsZ, List.getD, List.getElem?_eq_getElem hj]

theorem full_block {w : World} {g : Nat} {L : List Int} (hg : w.heap[g]? = some (.cells (cellsZ L).toArray 5 (0, 0))) : Full w (.slice (some ⟨g, 0, none⟩) L.length L.length) L.length (cellsZ L) := by
  refine ⟨some ⟨g, 0, none⟩, rfl, (fun h => by cases h), cellsZ_length _, ?_⟩
  intro b hb j u hu
  cases hb
  have hadd : (⟨g, 0, none⟩ : Addr).add j = ⟨g, j, none⟩ := by unfold Addr.add; split <;> simp_all
  rw [hadd, cell_of_row w g j _ 5 (0, 0) hg]
  simpa using hu

end Go.Proofs.Ybulkbuhs
