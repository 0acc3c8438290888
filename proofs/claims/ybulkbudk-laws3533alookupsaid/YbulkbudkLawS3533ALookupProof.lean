/- LawS3533ALookup: the frame is the guide's shell turned to a slice of structs that hold slices; the walk is YbulkbudkLk6's and YbulkbudkLk7's. -/
import Derived.Test.YbulkbudkRows
import Derived.WalkKit
import Derived.ProofKit
import Derived.OpenShut
import Derived.ShutString
import Derived.ChangeOld
import Derived.Below
import Derived.Deep.Slices
import Derived.SizedLaws
import Derived.Test.YbulkbudkLk6
import Derived.Test.YbulkbudkLk7
namespace Go.Proofs.Ybulkbudk.lawS3533ALookup
open Go.ChangeShapes Go.WideShapes Go.ChangeAt Go.RowKit
open Go.ChangeMaps (open_string shut_string)
set_option linter.unusedVariables false

theorem own : ownKnob Yba.prog.godebug = none := by kernel_rfl
theorem laidOut : laidOutB Yba.prog = true := by kernel_rfl
theorem cells32 : Yba.prog.cellsOf 32 = 4 := by kernel_rfl
theorem cells30 : Yba.prog.cellsOf 30 = 1 := by kernel_rfl
theorem cells9 : Yba.prog.cellsOf 9 = 1 := by kernel_rfl
theorem cells3 : Yba.prog.cellsOf 3 = 1 := by kernel_rfl
theorem bytes9 : Yba.prog.bytesOf 9 = 16 := by kernel_rfl

theorem nat_of_u8 {a : Int} (h : (Lit.int .u8 a).wf = true) : ∃ n : Nat, a = (n : Int) ∧ n < 256 := by
  have := bounds_u8 h
  exact ⟨a.toNat, by omega, by omega⟩

theorem list_of {α : Type} {P : Nat → α → Prop} : ∀ n : Nat, (∀ i, i < n → ∃ x, P i x) → ∃ l : List α, l.length = n ∧ ∀ i (hi : i < l.length), P i l[i]
  | 0, _ => ⟨[], rfl, fun i hi => absurd hi (Nat.not_lt_zero _)⟩
  | n + 1, h => by
    obtain ⟨l, hl, hP⟩ := list_of n (fun i hi => h i (by omega))
    obtain ⟨x, hx⟩ := h n (by omega)
    refine ⟨l ++ [x], by simp [hl], fun i hi => ?_⟩
    by_cases e : i < l.length
    · rw [List.getElem_append_left e]; exact hP i e
    · have : i = l.length := by simp at hi; omega
      subst this
      rw [List.getElem_append_right (Nat.le_refl _)]
      simpa [hl] using hx

theorem four {cs : List Value} (h : cs.length = 4) : ∃ v0 v1 v2 v3, cs = [v0, v1, v2, v3] := by
  match cs, h with
  | [v0, v1, v2, v3], _ => exact ⟨v0, v1, v2, v3, rfl⟩

theorem mem_all {H : Type} {P : Program} {e : TypeId} : ∀ {l : List (DataW H)} {d : DataW H}, d ∈ l → ∀ n ∈ d.weights P e, n ∈ DataW.weightsAll P e l
  | _ :: _, _, hd, n, hn => by
    simp only [DataW.weightsAll, List.mem_append]
    rcases List.mem_cons.1 hd with rfl | h
    · exact Or.inl hn
    · exact Or.inr (mem_all h n hn)

/-- An entry's ids. -/
theorem ids_of {H : Type} {enc : TypeId × Value → H} {W : World} {sp : Nat → Bool} {n : Nat} {v : Value} {x : DataW H × List MemPlace} (h : DataW.trod enc Yba.prog W 0 sp true n 30 [v] = some x) (hw : ∀ m ∈ x.1.weights Yba.prog 30, m ≤ reachBytes) :
    ∃ (s : Option Addr) (cap : Nat) (ids : List ByteArray), v = .slice s ids.length cap ∧ ids.length ≤ 8796093022207 ∧ (s = none → ids = [] ∧ cap = 0) ∧ ∀ p, s = some p → ∀ j u, (cellsS ids)[j]? = some u → W.cell? (p.add j) = some u := by
  rcases Go.Deep.open_slice1 Yba.underlying30 cells9 h with ⟨hcs, _⟩ | ⟨a, len, cap, m, k, V, D, Pl, hcs, _, hl, _, hm, rfl, hel⟩
  · simp only [List.cons.injEq, and_true] at hcs
    subst hcs
    exact ⟨none, 0, [], rfl, by simp, fun _ => ⟨rfl, rfl⟩, fun p hp => by cases hp⟩
  · simp only [List.cons.injEq, and_true] at hcs
    subst hcs
    have hlm : len ≤ m := by rw [hm]; split <;> omega
    have hE : ∀ i, i < len → ∃ s : ByteArray, W.cell? (a.add i) = some (.string s) := by
      intro i hi
      obtain ⟨h1, h2⟩ := hel i (by omega)
      obtain ⟨s, e, _⟩ := DataW.trod_string Yba.underlying9 h2
      simp only [List.cons.injEq, and_true] at e
      exact ⟨s, by rw [h1, e]⟩
    obtain ⟨ids, hlen, hids⟩ := list_of len hE
    subst hlen
    refine ⟨some a, cap, ids, rfl, ?_, fun e => (by cases e), fun p hp j u hu => ?_⟩
    · have h47 := reachBytes_lt
      have := hw ((ids.length + (m - ids.length)) * Yba.prog.bytesOf 9) (by simp [DataW.weights, Yba.underlying30])
      rw [bytes9] at this
      omega
    · cases hp
      simp only [cellsS, List.getElem?_map, Option.map_eq_some_iff] at hu
      obtain ⟨s, hs, rfl⟩ := hu
      obtain ⟨hj, rfl⟩ := List.getElem?_eq_some_iff.1 hs
      exact hids j hj

theorem item_of {H : Type} {enc : TypeId × Value → H} {W : World} {sp : Nat → Bool} {n : Nat} {cs : List Value} {x : DataW H × List MemPlace} (h : DataW.trod enc Yba.prog W 0 sp true n 32 cs = some x) (hw : ∀ m ∈ x.1.weights Yba.prog 32, m ≤ reachBytes) :
    ∃ t : Ent, cs = [.string t.file, .int .i64 t.line, .int .i64 t.col, t.idsV] ∧ t.Fits ∧ RowAt W t := by
  obtain ⟨xs, m, _, rfl, hlen, hxl, hf⟩ := DataW.trod_struct Yba.underlying32 h
  rw [cells32] at hlen
  obtain ⟨v0, v1, v2, v3, rfl⟩ := four hlen
  have f0 : DataW.trod enc Yba.prog W 0 sp true m 9 [v0] = xs[0]? := by
    have h : DataW.trod enc Yba.prog W 0 sp true m 9 (([v0, v1, v2, v3].drop 0).take (Yba.prog.cellsOf 9)) = xs[0]? := hf 0 _ rfl
    rw [cells9] at h
    exact h
  have f1 : DataW.trod enc Yba.prog W 0 sp true m 3 [v1] = xs[1]? := by
    have h : DataW.trod enc Yba.prog W 0 sp true m 3 (([v0, v1, v2, v3].drop 1).take (Yba.prog.cellsOf 3)) = xs[1]? := hf 1 _ rfl
    rw [cells3] at h
    exact h
  have f2 : DataW.trod enc Yba.prog W 0 sp true m 3 [v2] = xs[2]? := by
    have h : DataW.trod enc Yba.prog W 0 sp true m 3 (([v0, v1, v2, v3].drop 2).take (Yba.prog.cellsOf 3)) = xs[2]? := hf 2 _ rfl
    rw [cells3] at h
    exact h
  have f3 : DataW.trod enc Yba.prog W 0 sp true m 30 [v3] = xs[3]? := by
    have h : DataW.trod enc Yba.prog W 0 sp true m 30 (([v0, v1, v2, v3].drop 3).take (Yba.prog.cellsOf 30)) = xs[3]? := hf 3 _ rfl
    rw [cells30] at h
    exact h
  have hx : ∀ i, i < 4 → ∃ y, xs[i]? = some y := fun i hi => ⟨_, List.getElem?_eq_getElem (by rw [hxl]; exact hi)⟩
  obtain ⟨y0, e0⟩ := hx 0 (by omega)
  obtain ⟨y1, e1⟩ := hx 1 (by omega)
  obtain ⟨y2, e2⟩ := hx 2 (by omega)
  obtain ⟨y3, e3⟩ := hx 3 (by omega)
  obtain ⟨a0, g0, _, w0⟩ := DataW.trod_string Yba.underlying9 (f0.trans e0)
  obtain ⟨a1, g1, _, w1⟩ := DataW.trod_int Yba.underlying3 (f1.trans e1)
  obtain ⟨a2, g2, _, w2⟩ := DataW.trod_int Yba.underlying3 (f2.trans e2)
  obtain ⟨s, cap, ids, g3, big, hnil, hrow⟩ := ids_of (f3.trans e3) (fun k hk => hw k (by
    simp only [DataW.weights, Yba.underlying32]
    exact DataW.weights_mem_each (j := 3) (t := 30) (d := y3.1) rfl (by rw [List.getElem?_map, e3]; rfl) k hk))
  simp only [List.cons.injEq, and_true] at g0 g1 g2
  subst g0 g1 g2 g3
  exact ⟨⟨a0, a1, a2, s, cap, ids⟩, rfl, ⟨w0, w1, w2, big, hnil⟩, hrow⟩

theorem open_entries {H : Type} {enc : TypeId × Value → H} {W : World} {a : Option Addr} {len cap : Nat} {d : DataW H} {p : List MemPlace}
    (h : DataW.Trod enc Yba.prog W 0 (fun _ => true) true 22 (.slice a len cap) d p) (hw : ∀ m ∈ d.weights Yba.prog 22, m ≤ reachBytes) :
    len = 0 ∨ ∃ (b o : Nat) (es : List Ent), a = some ⟨b, o, none⟩ ∧ es.length = len ∧ (∀ i (hi : i < es.length), EntAt W b (o + i * 4) es[i]) ∧ ∀ i (hi : i < es.length), es[i].Fits := by
  obtain ⟨fuel, hf⟩ := h
  rcases Go.Deep.open_slice Yba.underlying22 hf with ⟨hcs, _⟩ | ⟨x, l, c, m, n, D, Pl, hcs, _, hl, hm, hmm, hd, hel⟩
  · simp [Value.cells] at hcs
    exact .inl hcs.2.1
  · simp [Value.cells] at hcs
    obtain ⟨rfl, rfl, rfl⟩ := hcs
    simp only [if_true] at hmm
    subst hmm
    simp only [Prod.mk.injEq] at hd
    obtain ⟨rfl, _⟩ := hd
    rcases Nat.eq_zero_or_pos len with h0 | hpos
    · exact .inl h0
    right
    rw [cells32] at hel
    have hE : ∀ i, i < len → ∃ t : Ent, (∀ j, j < 4 → W.cell? ((x.add (i * 4)).add j) = [Value.string t.file, .int .i64 t.line, .int .i64 t.col, t.idsV][j]?) ∧ t.Fits ∧ RowAt W t := by
      intro i hi
      obtain ⟨cs', hc, ht⟩ := hel i (by omega)
      obtain ⟨t, rfl, hfit, hrow⟩ := item_of ht (fun k hk => hw k (by
        simp only [DataW.weights, Yba.underlying22, List.mem_cons, List.mem_append]
        exact Or.inr (Or.inl (mem_all (List.mem_map.2 ⟨i, List.mem_range.2 hi, rfl⟩) k hk))))
      exact ⟨t, (World.cells?_some hc).2.2, hfit, hrow⟩
    obtain ⟨b, o, spot⟩ := x
    have hspot : spot = none := by
      obtain ⟨t, ht, _⟩ := hE 0 hpos
      have h0 := ht 0 (by omega)
      simpa [Addr.add] using World.cell?_spot (h0.trans (by rfl : _ = some (Value.string t.file)))
    subst hspot
    obtain ⟨es, hlen, hes⟩ := list_of len hE
    refine ⟨b, o, es, rfl, hlen, fun i hi => ?_, fun i hi => (hes i hi).2.1⟩
    have h4 := (hes i hi).1
    refine ⟨?_, ?_, ?_, ?_, (hes i hi).2.2⟩
    · simpa [add_plain] using h4 0 (by omega)
    · simpa [add_plain] using h4 1 (by omega)
    · simpa [add_plain] using h4 2 (by omega)
    · simpa [add_plain] using h4 3 (by omega)

theorem walk {H : Type} {enc : TypeId × Value → H} (a : Option Addr) (len cap : Nat) (sel : Int) (file : ByteArray) (line col : Int) (w : World) (d : DataW H) (p : List MemPlace) (h : DataW.Trod enc Yba.prog w 0 (fun _ => true) true 22 (.slice a len cap) d p)
    (hw : ∀ m ∈ d.weights Yba.prog 22, m ≤ reachBytes) (w1 : (Lit.int .u8 sel).wf = true) (w2 : file.size ≤ maxLen) (w3 : (Lit.int .i64 line).wf = true) (w4 : (Lit.int .i64 col).wf = true) :
    Calls Yba.prog 3 #[.slice a len cap, .int .u8 sel, .string file, .int .i64 line, .int .i64 col] w fun e w' => e = .returned (.bool true) ∧ Below w.heap.size w w' := by
  obtain ⟨s, rfl, hs⟩ := nat_of_u8 w1
  rcases open_entries h hw with rfl | ⟨b, o, es, rfl, hlen, hat, hfit⟩
  · exact lk_none a cap s file line col w w2 w3 w4
  · rcases Nat.eq_zero_or_pos len with rfl | h1
    · exact lk_none _ cap s file line col w w2 w3 w4
    · by_cases hl : len ≤ 1024
      · exact lk_some b o len cap es s file line col w h1 hl hlen hs hat hfit w2 w3 w4
      · exact lk_many _ len cap s file line col w (by omega)

set_option maxRecDepth 100000 in
theorem lifted (os : Os) (started : os.Started) (H : Type) (enc : TypeId × Value → H) :
    ReturnsInHanded {} Yba.checked os 3 .any (Rows.lawS3533ALookupSpec.pre6 enc Yba.prog Yba.f3 Rows.lawS3533ALookupRow.domain false) (Rows.lawS3533ALookupSpec.post enc Yba.prog Yba.f3 false true false false) := by
  refine returnsInHanded_of_change_sized (C := Yba.checked) own started (by kernel_rfl) Yba.func3
    (ChangeSpec.witness6 (enc := enc) (C := Yba.checked) false ⟨#[], #[.slice none 0 0, .int .u8 0, .string ByteArray.empty, .int .i64 0, .int .i64 0], []⟩ 8 (by kernel_rfl) (by kernel_rfl) (by kernel_rfl) (by kernel_rfl)) ?_
  intro W base args ds gs before hval0 hW hcnd hsz0 _
  have hsz : (DataW.weightsEach Yba.prog (Yba.f3.params.toList ++ Rows.lawS3533ALookupSpec.plain.varTypes Yba.prog) (ds ++ gs)).all (· ≤ reachBytes) = true := hsz0
  have hval : ∀ (j : Nat) t v, Yba.f3.params[j]? = some t → args[j]? = some v → Value.okWide Yba.prog W .any base t v := hval0
  have hW' := hW
  obtain ⟨p, q, hA0, hV, rfl, hfz, hnd⟩ := hW
  have hA : DataW.TrodAll enc Yba.prog W 0 (fun _ => true) true Yba.f3.params.toList args.toList ds p := hA0
  rw [Yba.params3] at hA hval hsz
  obtain ⟨v0, vs0, d0, ds0, p0, q0, hargs, rfl, rfl, h0, r0⟩ := trodAll_cons hA
  obtain ⟨v1, vs1, d1, ds1, p1, q1, rfl, rfl, rfl, h1, r1⟩ := trodAll_cons r0
  obtain ⟨v2, vs2, d2, ds2, p2, q2, rfl, rfl, rfl, h2, r2⟩ := trodAll_cons r1
  obtain ⟨v3, vs3, d3, ds3, p3, q3, rfl, rfl, rfl, h3, r3⟩ := trodAll_cons r2
  obtain ⟨v4, vs4, d4, ds4, p4, q4, rfl, rfl, rfl, h4, r4⟩ := trodAll_cons r3
  obtain ⟨rfl, rfl, rfl⟩ := trodAll_nil r4
  obtain rfl : args = #[v0, v1, v2, v3, v4] := by cases args; simp_all
  obtain ⟨rfl, rfl⟩ := trodVars_none hV
  obtain ⟨a0, len0, cap0, rfl⟩ := okWide_slice Yba.underlying22 (hval 0 22 v0 rfl rfl)
  obtain ⟨a1, rfl, rfl, rfl, w1⟩ := open_int Yba.underlying5 (hval 1 5 v1 rfl rfl) h1
  obtain ⟨a2, rfl, rfl, rfl, w2⟩ := open_string Yba.underlying9 (hval 2 9 v2 rfl rfl) h2
  obtain ⟨a3, rfl, rfl, rfl, w3⟩ := open_int Yba.underlying3 (hval 3 3 v3 rfl rfl) h3
  obtain ⟨a4, rfl, rfl, rfl, w4⟩ := open_int Yba.underlying3 (hval 4 3 v4 rfl rfl) h4
  have hw0 : ∀ m ∈ d0.weights Yba.prog 22, m ≤ reachBytes := fun m hm =>
    of_decide_eq_true (List.all_eq_true.1 hsz _ (DataW.weights_mem_each (j := 0) (t := 22) (d := d0) rfl rfl m hm))
  have k0 := h0
  have lt0 : ∀ x ∈ p0, x.block < W.heap.size := by obtain ⟨m, hm⟩ := k0; exact DataW.trod_lt m _ _ _ hm
  clear hA0 hval0 hsz0 hsz
  refine (walk a0 len0 cap0 a1 a2 a3 a4 W d0 p0 h0 hw0 w1 w2 w3 w4).mono fun e W' ⟨he, bel⟩ => ?_
  subst he
  exact ⟨_, rfl, _, _, _, [], _, [], hW', trodAll_mk1 (shut_bool Yba.underlying4 _), (trodAll_cons_mk (Below.trod laidOut (by kernel_rfl) (of_decide_eq_true (by kernel_rfl)) k0 bel lt0) (trodAll_cons_mk (shut_int Yba.underlying5 w1) (trodAll_cons_mk (shut_string Yba.underlying9 w2) (trodAll_cons_mk (shut_int Yba.underlying3 w3) (trodAll_cons_mk (shut_int Yba.underlying3 w4) trodAll_mk0))))), rfl, bel.frame _, fun h => by cases h⟩

theorem over : Rows.lawS3533ALookupRow.holds Yba.pinned (OpenSpec.ofChange Rows.lawS3533ALookupSpec) :=
  OpenClaim.holds_of_wide 3 Yba.f3 rfl rfl rfl rfl rfl rfl rfl ⟨rfl, rfl, rfl, rfl, rfl⟩ rfl rfl rfl rfl rfl (by kernel_rfl) Yba.func3 (by kernel_rfl)
    (of_decide_eq_true (by kernel_rfl)) (by unfold Func.isWrapper; first | (rw [if_pos (by decide +kernel)]; kernel_rfl) | (rw [if_neg (by decide +kernel)]; exact ⟨rfl, rfl⟩))
    (fun os started H enc _ => lifted os started H enc)

/-- The statement. -/
theorem proved : Rows.LawS3533ALookupSaid := over
end Go.Proofs.Ybulkbudk.lawS3533ALookup
