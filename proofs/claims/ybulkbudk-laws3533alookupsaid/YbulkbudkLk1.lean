/- LawS3533ALookup: zzs3533aclone and setsIn. -/
import Derived.Test.YbulkbudkLk0
import Derived.WalkKit
import Derived.Laws.Cover3
import Derived.BigRegion
import Derived.Deep.RegionWith
namespace Go.Proofs.Ybulkbudk
open Go.RowKit Go.Maps

theorem info9 : (Yba.prog.info? 9).map (fun i => (i.zero, i.size, i.bytes)) = some (some (.string ByteArray.empty), 1, 16) := by kernel_rfl
theorem size9 : (Yba.prog.info? 9).map (·.size) = some 1 := by kernel_rfl

/-- 's == nil' of a slice of strings. -/
@[go_sem] theorem eql_nil30 (w : World) (a : Option Addr) (l c : Nat) : (binOp .eql 30 (.slice a l c) (.slice none 0 0)).run Yba.prog w = .ok (.bool a.isNone) w := by
  simp only [binOp]
  simp [run_equal_slice_nil w 30 9 a l c Yba.underlying30]

/-- A row of strings, as cells. -/
def cellsS (xs : List ByteArray) : List Value := xs.map Value.string
theorem cellsS_length (xs : List ByteArray) : (cellsS xs).length = xs.length := by simp [cellsS]
theorem cellsS_one (xs : List ByteArray) : ∀ u ∈ cellsS xs, u.oneCell' = true := by
  intro u hu
  simp only [cellsS, List.mem_map] at hu
  obtain ⟨s, _, rfl⟩ := hu
  rfl

section
variable {w : World} {ops : Array Oper} {rest : List Oper} {o : Oper} {a : Act} {Q : Exit → Act → World → Prop}

theorem make30 (hg : o.guard = none) (l c : Operand) (hop : o.op = Op.makeSlice 30 l c) (kl kc : IntKind) (n : Nat) (hl : a.eval l = .int kl n) (hc : a.eval c = .int kc n) (hn : n ≤ 8796093022207)
    (hK : ∀ w', w'.heap[w.heap.size]? = some (.cells (madeCells #[.string ByteArray.empty] n) 9 (0, 0)) → w'.heap.size = w.heap.size + 1 → Below w.heap.size w w' → wpList Yba.prog ops Q rest (a.put o.dst (.slice (some ⟨w.heap.size, 0, none⟩) n n)) w') :
    wpList Yba.prog ops Q (o :: rest) a w := by
  refine wpList_plain hg fun K hK' => ?_
  have hrun := run_make_row' (P := Yba.prog) 30 9 (.string ByteArray.empty) 16 Yba.underlying30 info9 rfl kl kc n (by omega) (by omega) w
  unfold Oper.wp
  simp [execOp, hop, hl, hc, hrun, Result.andThen]
  exact hK' _ _ (hK _ (heap_alloc_new w _) (by simp) ((Below.refl _ _).alloc (Nat.le_refl _) _))

theorem copy30 (hgd : o.guard = none) (d s : Operand) (ho : o.op = .call { callee := .builtin .copy, args := #[d, s], argTypes := #[30, 30] })
    (g n c : Nat) (sp : Option Addr) (cur : Array Value) (hd : a.eval d = .slice (some ⟨g, 0, none⟩) n n) (hs : a.eval s = .slice sp n c) (hg : w.heap[g]? = some (.cells cur 9 (0, 0))) (hcur : cur.size = n)
    (cs : List Value) (hcs : cs.length = n) (hnone : sp = none → n = 0) (hsrc : ∀ ad, sp = some ad → ∀ j v, cs[j]? = some v → w.cell? (ad.add j) = some v) (h1 : ∀ v ∈ cs, v.oneCell' = true)
    (h : ∀ w', w'.heap[g]? = some (.cells cs.toArray 9 (0, 0)) → Below g w w' → wpList Yba.prog ops Q rest (a.put o.dst (goInt n)) w') : wpList Yba.prog ops Q (o :: rest) a w := by
  refine wpList_copy_splice hgd d s 30 30 ho 9 Yba.underlying30 size9 (some ⟨g, 0, none⟩) sp n n n c hd hs g 0 cur.toList 9 (by simpa using hg) cs (by simp [hcs]) ?_ (by simp [hcs, hcur]) h1 g w (Below.refl _ _) (Nat.le_refl _) ?_
  · intro hp
    cases sp with
    | none => have := hnone rfl; omega
    | some ad => exact ⟨rfl, ad, rfl, hsrc ad rfl⟩
  · intro w' hg' hb'
    have e : splice cur.toList 0 cs = cs := by
      have : cur.toList.length ≤ 0 + cs.length := by simp [hcs, hcur]
      simp only [splice, List.take_zero, List.nil_append]
      rw [List.drop_of_length_le this, List.append_nil]
    have hg2 := hg'.out
    rw [e] at hg2
    rw [hcs]
    exact h w' hg2 hb'
end

set_option maxRecDepth 100000 in
theorem clone_nil (w : World) : Calls Yba.prog 7 #[.slice none 0 0] w fun e w' => e = .returned (.slice none 0 0) ∧ w' = w := by
  go_enter Yba.func7, Yba.ntmps7
  go_wp2
  go_ret
  exact ⟨rfl, rfl⟩

set_option maxRecDepth 100000 in
set_option maxHeartbeats 1000000 in
theorem clone_some (p : Addr) (c : Nat) (xs : List ByteArray) (w : World) (hn : xs.length ≤ 8796093022207) (hcell : ∀ j u, (cellsS xs)[j]? = some u → w.cell? (p.add j) = some u) :
    Calls Yba.prog 7 #[.slice (some p) xs.length c] w fun e w' => e = .returned (.slice (some ⟨w.heap.size, 0, none⟩) xs.length xs.length) ∧ w'.heap[w.heap.size]? = some (.cells (cellsS xs).toArray 9 (0, 0)) ∧ Below w.heap.size w w' := by
  have HC : Hid (∀ j u, (cellsS xs)[j]? = some u → w.cell? (p.add j) = some u) := hcell
  clear hcell
  go_enter Yba.func7, Yba.ntmps7
  go_wp2_with (at_make; refine make30 rfl _ _ rfl .i64 .i64 xs.length rfl rfl (by omega) ?_)
  intro w1 hg1 hs1 hb1
  have HG1 : Hid (w1.heap[w.heap.size]? = some (.cells (madeCells #[.string ByteArray.empty] xs.length) 9 (0, 0))) := hg1
  have HB1 : Hid (Below w.heap.size w w1) := hb1
  clear hg1 hb1
  have HS : Hid (∀ ad, some p = some ad → ∀ j u, (cellsS xs)[j]? = some u → w1.cell? (ad.add j) = some u) := by
    intro ad had j u hu
    cases had
    have h := HC.out j u hu
    rw [HB1.out.cell (World.block_lt_of_cell? _ _ h)]
    exact h
  go_wp2_with (refine copy30 rfl _ _ rfl w.heap.size xs.length c (some p) _ rfl rfl HG1.out (size_madeCells _ _) (cellsS xs) (cellsS_length _) (fun h => by cases h) HS.out (cellsS_one _) ?_)
  intro w2 hg2 hb2
  have HG2 : Hid (w2.heap[w.heap.size]? = some (.cells (cellsS xs).toArray 9 (0, 0))) := hg2
  have HB2 : Hid (Below w.heap.size w w2) := HB1.out.trans hb2
  clear hg2 hb2
  go_wp2
  go_ret
  exact ⟨rfl, HG2.out, HB2.out⟩
end Go.Proofs.Ybulkbudk
