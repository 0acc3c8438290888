/- LawS3533BSequence: the frame is the guide's shell turned to a slice of structs; the walk is YbulkbudkSeqWalk's. -/
import Derived.Test.YbulkbudkRows
import Derived.WalkKit
import Derived.ProofKit
import Derived.OpenShut
import Derived.ShutString
import Derived.ChangeOld
import Derived.Below
import Derived.Deep.Slices
import Derived.Test.YbulkbudkSeqWalk
namespace Go.Proofs.Ybulkbudk.lawS3533BSequence
open Go.ChangeShapes Go.WideShapes Go.ChangeAt Go.RowKit
open Go.ChangeMaps (open_string shut_string)
set_option linter.unusedVariables false

theorem own : ownKnob Yba.prog.godebug = none := by kernel_rfl
theorem laidOut : laidOutB Yba.prog = true := by kernel_rfl
theorem cells51 : Yba.prog.cellsOf 51 = 6 := by kernel_rfl
theorem cells40 : Yba.prog.cellsOf 40 = 1 := by kernel_rfl
theorem cells4 : Yba.prog.cellsOf 4 = 1 := by kernel_rfl
theorem cells9 : Yba.prog.cellsOf 9 = 1 := by kernel_rfl

theorem nat_of_u64 {a : Int} (h : (Lit.int .u64 a).wf = true) : ∃ n : Nat, a = (n : Int) ∧ n < 18446744073709551616 := by
  have := bounds_u64 h
  exact ⟨a.toNat, by omega, by omega⟩

theorem list_of {α : Type} {P : Nat → α → Prop} : ∀ n : Nat, (∀ i, i < n → ∃ x, P i x) → ∃ l : List α, l.length = n ∧ ∀ i (hi : i < l.length), P i l[i]
  | 0, _ => ⟨[], rfl, fun i hi => absurd hi (Nat.not_lt_zero _)⟩
  | n + 1, h => by
    obtain ⟨l, hl, hP⟩ := list_of n (fun i hi => h i (by omega))
    obtain ⟨x, hx⟩ := h n (by omega)
    refine ⟨l ++ [x], by simp [hl], fun i hi => ?_⟩
    by_cases e : i < l.length
    · rw [List.getElem_append_left e]; exact hP i e
    · have : i = l.length := by simp at hi; omega
      subst this
      rw [List.getElem_append_right (Nat.le_refl _)]
      simpa [hl] using hx

theorem six {cs : List Value} (h : cs.length = 6) : ∃ v0 v1 v2 v3 v4 v5, cs = [v0, v1, v2, v3, v4, v5] := by
  match cs, h with
  | [v0, v1, v2, v3, v4, v5], _ => exact ⟨v0, v1, v2, v3, v4, v5, rfl⟩

theorem item_of {H : Type} {enc : TypeId × Value → H} {W : World} {sp : Nat → Bool} {n : Nat} {cs : List Value} {x : DataW H × List MemPlace} (h : DataW.trod enc Yba.prog W 0 sp true n 51 cs = some x) :
    ∃ t : Item, cs = [.int .u64 t.base, .bool t.ed, .bool t.fi, .int .u64 t.head, .int .u64 t.tail, .string t.mid] ∧ t.fits := by
  obtain ⟨xs, m, _, _, hlen, hxl, hf⟩ := DataW.trod_struct Yba.underlying51 h
  rw [cells51] at hlen
  obtain ⟨v0, v1, v2, v3, v4, v5, rfl⟩ := six hlen
  · have f0 : DataW.trod enc Yba.prog W 0 sp true m 40 [v0] = xs[0]? := by
      have h : DataW.trod enc Yba.prog W 0 sp true m 40 (([v0, v1, v2, v3, v4, v5].drop 0).take (Yba.prog.cellsOf 40)) = xs[0]? := hf 0 _ rfl
      rw [cells40] at h
      exact h
    have f1 : DataW.trod enc Yba.prog W 0 sp true m 4 [v1] = xs[1]? := by
      have h : DataW.trod enc Yba.prog W 0 sp true m 4 (([v0, v1, v2, v3, v4, v5].drop 1).take (Yba.prog.cellsOf 4)) = xs[1]? := hf 1 _ rfl
      rw [cells4] at h
      exact h
    have f2 : DataW.trod enc Yba.prog W 0 sp true m 4 [v2] = xs[2]? := by
      have h : DataW.trod enc Yba.prog W 0 sp true m 4 (([v0, v1, v2, v3, v4, v5].drop 2).take (Yba.prog.cellsOf 4)) = xs[2]? := hf 2 _ rfl
      rw [cells4] at h
      exact h
    have f3 : DataW.trod enc Yba.prog W 0 sp true m 40 [v3] = xs[3]? := by
      have h : DataW.trod enc Yba.prog W 0 sp true m 40 (([v0, v1, v2, v3, v4, v5].drop 3).take (Yba.prog.cellsOf 40)) = xs[3]? := hf 3 _ rfl
      rw [cells40] at h
      exact h
    have f4 : DataW.trod enc Yba.prog W 0 sp true m 40 [v4] = xs[4]? := by
      have h : DataW.trod enc Yba.prog W 0 sp true m 40 (([v0, v1, v2, v3, v4, v5].drop 4).take (Yba.prog.cellsOf 40)) = xs[4]? := hf 4 _ rfl
      rw [cells40] at h
      exact h
    have f5 : DataW.trod enc Yba.prog W 0 sp true m 9 [v5] = xs[5]? := by
      have h : DataW.trod enc Yba.prog W 0 sp true m 9 (([v0, v1, v2, v3, v4, v5].drop 5).take (Yba.prog.cellsOf 9)) = xs[5]? := hf 5 _ rfl
      rw [cells9] at h
      exact h
    have hx : ∀ i, i < 6 → ∃ y, xs[i]? = some y := fun i hi => ⟨_, List.getElem?_eq_getElem (by rw [hxl]; exact hi)⟩
    obtain ⟨y0, e0⟩ := hx 0 (by omega)
    obtain ⟨y1, e1⟩ := hx 1 (by omega)
    obtain ⟨y2, e2⟩ := hx 2 (by omega)
    obtain ⟨y3, e3⟩ := hx 3 (by omega)
    obtain ⟨y4, e4⟩ := hx 4 (by omega)
    obtain ⟨y5, e5⟩ := hx 5 (by omega)
    obtain ⟨a0, g0, _, w0⟩ := DataW.trod_int Yba.underlying40 (f0.trans e0)
    obtain ⟨a1, g1, _⟩ := DataW.trod_bool Yba.underlying4 (f1.trans e1)
    obtain ⟨a2, g2, _⟩ := DataW.trod_bool Yba.underlying4 (f2.trans e2)
    obtain ⟨a3, g3, _, w3⟩ := DataW.trod_int Yba.underlying40 (f3.trans e3)
    obtain ⟨a4, g4, _, w4⟩ := DataW.trod_int Yba.underlying40 (f4.trans e4)
    obtain ⟨a5, g5, _, w5⟩ := DataW.trod_string Yba.underlying9 (f5.trans e5)
    obtain ⟨n0, rfl, b0⟩ := nat_of_u64 w0
    obtain ⟨n3, rfl, b3⟩ := nat_of_u64 w3
    obtain ⟨n4, rfl, b4⟩ := nat_of_u64 w4
    simp only [List.cons.injEq, and_true] at g0 g1 g2 g3 g4 g5
    subst g0 g1 g2 g3 g4 g5
    exact ⟨⟨n0, a1, a2, n3, n4, a5⟩, rfl, b0, b3, b4, w5⟩

theorem open_items {H : Type} {enc : TypeId × Value → H} {W : World} {a : Option Addr} {len cap : Nat} {d : DataW H} {p : List MemPlace}
    (h : DataW.Trod enc Yba.prog W 0 (fun _ => true) true 49 (.slice a len cap) d p) :
    len = 0 ∨ ∃ (b o : Nat) (its : List Item), a = some ⟨b, o, none⟩ ∧ its.length = len ∧ (∀ i (hi : i < its.length), ItemAt W b (o + i * 6) its[i]) ∧ ∀ t ∈ its, t.fits := by
  obtain ⟨fuel, hf⟩ := h
  rcases Go.Deep.open_slice Yba.underlying49 hf with ⟨hcs, _⟩ | ⟨x, l, c, m, n, D, Pl, hcs, _, hl, hm, hmm, _, hel⟩
  · simp [Value.cells] at hcs
    exact .inl hcs.2.1
  · simp [Value.cells] at hcs
    obtain ⟨rfl, rfl, rfl⟩ := hcs
    simp only [if_true] at hmm
    subst hmm
    rcases Nat.eq_zero_or_pos len with h0 | hpos
    · exact .inl h0
    right
    rw [cells51] at hel
    have hE : ∀ i, i < len → ∃ t : Item, (∀ j, j < 6 → W.cell? ((x.add (i * 6)).add j) = [Value.int .u64 t.base, .bool t.ed, .bool t.fi, .int .u64 t.head, .int .u64 t.tail, .string t.mid][j]?) ∧ t.fits := by
      intro i hi
      obtain ⟨cs', hc, ht⟩ := hel i (by omega)
      obtain ⟨t, rfl, hfit⟩ := item_of ht
      exact ⟨t, (World.cells?_some hc).2.2, hfit⟩
    obtain ⟨b, o, spot⟩ := x
    have hspot : spot = none := by
      obtain ⟨t, ht, _⟩ := hE 0 hpos
      have h0 := ht 0 (by omega)
      simpa [Addr.add] using World.cell?_spot (h0.trans (by rfl : _ = some (Value.int .u64 t.base)))
    subst hspot
    obtain ⟨its, hlen, hits⟩ := list_of len hE
    refine ⟨b, o, its, rfl, hlen, fun i hi => ?_, fun t ht => ?_⟩
    · have h6 := (hits i hi).1
      refine ⟨?_, ?_, ?_, ?_, ?_, ?_⟩
      · simpa [add_plain] using h6 0 (by omega)
      · simpa [add_plain] using h6 1 (by omega)
      · simpa [add_plain] using h6 2 (by omega)
      · simpa [add_plain] using h6 3 (by omega)
      · simpa [add_plain] using h6 4 (by omega)
      · simpa [add_plain] using h6 5 (by omega)
    · obtain ⟨j, hj, rfl⟩ := List.getElem_of_mem ht
      exact (hits j hj).2

set_option maxHeartbeats 1000000 in
theorem walk {H : Type} {enc : TypeId × Value → H} (a : Option Addr) (len cap : Nat) (w : World) (d : DataW H) (p : List MemPlace) (h : DataW.Trod enc Yba.prog w 0 (fun _ => true) true 49 (.slice a len cap) d p) :
    Calls Yba.prog 6 #[.slice a len cap] w fun e w' => e = .returned (.bool true) ∧ Below w.heap.size w w' := by
  rcases open_items h with rfl | ⟨b, o, its, rfl, hlen, hat, hfit⟩
  · exact seq_none a cap w
  · clear h
    by_cases hl : len ≤ 256
    · rcases Nat.eq_zero_or_pos len with rfl | h1
      · exact seq_none _ cap w
      · exact seq_some b o len cap its w h1 hl hlen hat hfit
    · clear hat hfit hlen
      go_enter Yba.func6, Yba.ntmps6
      go_wp2
      go_ret
      exact ⟨rfl, Below.refl _ _⟩

set_option maxRecDepth 100000 in
theorem lifted (os : Os) (started : os.Started) (H : Type) (enc : TypeId × Value → H) :
    ReturnsInHanded {} Yba.checked os 6 .any (Rows.lawS3533BSequenceSpec.pre6 enc Yba.prog Yba.f6 Rows.lawS3533BSequenceRow.domain false) (Rows.lawS3533BSequenceSpec.post enc Yba.prog Yba.f6 false true false false) := by
  refine returnsInHanded_of_change (C := Yba.checked) own started (by kernel_rfl) Yba.func6
    (ChangeSpec.witness6 (enc := enc) (C := Yba.checked) false ⟨#[], #[.slice none 0 0], []⟩ 8 (by kernel_rfl) (by kernel_rfl) (by kernel_rfl) (by kernel_rfl)) ?_
  intro W base args ds gs before hval0 hW hcnd _
  have hval : ∀ (j : Nat) t v, Yba.f6.params[j]? = some t → args[j]? = some v → Value.okWide Yba.prog W .any base t v := hval0
  have hW' := hW
  obtain ⟨p, q, hA0, hV, rfl, hfz, hnd⟩ := hW
  have hA : DataW.TrodAll enc Yba.prog W 0 (fun _ => true) true Yba.f6.params.toList args.toList ds p := hA0
  rw [Yba.params6] at hA hval
  obtain ⟨v0, vs0, d0, ds0, p0, q0, hargs, rfl, rfl, h0, r0⟩ := trodAll_cons hA
  obtain ⟨rfl, rfl, rfl⟩ := trodAll_nil r0
  obtain rfl : args = #[v0] := by cases args; simp_all
  obtain ⟨rfl, rfl⟩ := trodVars_none hV
  obtain ⟨a0, len0, cap0, rfl⟩ := okWide_slice Yba.underlying49 (hval 0 49 v0 rfl rfl)
  have k0 := h0
  have lt0 : ∀ x ∈ p0, x.block < W.heap.size := by obtain ⟨m, hm⟩ := k0; exact DataW.trod_lt m _ _ _ hm
  clear hA0 hval0
  refine (walk a0 len0 cap0 W d0 p0 h0).mono fun e W' ⟨he, bel⟩ => ?_
  subst he
  exact ⟨_, rfl, _, _, _, [], _, [], hW', trodAll_mk1 (shut_bool Yba.underlying4 _), (trodAll_cons_mk (Below.trod laidOut (by kernel_rfl) (of_decide_eq_true (by kernel_rfl)) k0 bel lt0) trodAll_mk0), rfl, bel.frame _, fun h => by cases h⟩

theorem over : Rows.lawS3533BSequenceRow.holds Yba.pinned (OpenSpec.ofChange Rows.lawS3533BSequenceSpec) :=
  OpenClaim.holds_of_wide 6 Yba.f6 rfl rfl rfl rfl rfl rfl rfl ⟨rfl, rfl, rfl, rfl, rfl⟩ rfl rfl rfl rfl rfl (by kernel_rfl) Yba.func6 (by kernel_rfl)
    (of_decide_eq_true (by kernel_rfl)) (by unfold Func.isWrapper; first | (rw [if_pos (by decide +kernel)]; kernel_rfl) | (rw [if_neg (by decide +kernel)]; exact ⟨rfl, rfl⟩))
    (fun os started H enc _ => lifted os started H enc)

/-- The statement. -/
theorem proved : Rows.LawS3533BSequenceSaid := over
end Go.Proofs.Ybulkbudk.lawS3533BSequence
