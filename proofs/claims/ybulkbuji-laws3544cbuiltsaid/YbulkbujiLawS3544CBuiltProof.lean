/- LawS3544CBuilt: the frame is the guide's shell turned to this function; the walk is in the texts it imports. -/
import Derived.Test.YbulkbujiRows
import Derived.WalkKit
import Derived.ProofKit
import Derived.OpenShut
import Derived.ShutString
import Derived.ChangeOld
import Derived.Below
import Derived.Test.YbulkbujiBuilt
namespace Go.Proofs.Ybulkbuji.lawS3544CBuilt
open Go.ChangeShapes Go.WideShapes Go.ChangeAt Go.RowKit
open Go.ChangeMaps (open_string shut_string)
set_option linter.unusedVariables false

theorem own : ownKnob Yba.prog.godebug = none := by kernel_rfl
theorem laidOut : laidOutB Yba.prog = true := by kernel_rfl
theorem cells5 : Yba.prog.cellsOf 5 = 1 := by kernel_rfl
theorem cells27 : Yba.prog.cellsOf 27 = 12 := by kernel_rfl

theorem open_addrs {H : Type} {enc : TypeId × Value → H} {W : World} {base : Nat} {v : Value} {d : DataW H} {p : List MemPlace} (hv : Value.okWide Yba.prog W .any base 27 v) (h : DataW.Trod enc Yba.prog W 0 (fun _ => true) true 27 v d p) :
    ∃ z0 z1 z2 z3 z4 z5 z6 z7 z8 z9 z10 z11 : Int, v = .agg #[.int .u8 z0, .int .u8 z1, .int .u8 z2, .int .u8 z3, .int .u8 z4, .int .u8 z5, .int .u8 z6, .int .u8 z7, .int .u8 z8, .int .u8 z9, .int .u8 z10, .int .u8 z11] := by
  simp only [Value.okWide, Yba.underlying27] at hv
  obtain ⟨cs, rfl, hsz, _⟩ := hv
  rw [cells27] at hsz
  obtain ⟨fuel, hf⟩ := h
  obtain ⟨xs, m, _, _, _, hxl, hi⟩ := DataW.trod_array Yba.underlying27 hf
  have hE : ∀ i, i < 12 → ∃ z : Int, cs[i]? = some (.int .u8 z) := by
    intro i hi12
    have h1 := hi i hi12
    rw [cells5] at h1
    rw [List.getElem?_eq_getElem (by omega)] at h1
    obtain ⟨z, hz, _⟩ := DataW.trod_int Yba.underlying5 h1
    have h2 : ((Value.agg cs).cells.toList.drop (i * 1)).take 1 = [.int .u8 z] := hz
    simp [Value.cells] at h2
    refine ⟨z, ?_⟩
    have h3 := congrArg (fun l => l[0]?) h2
    simpa [List.getElem?_take, List.getElem?_drop] using h3
  obtain ⟨z0, e0⟩ := hE 0 (by omega)
  obtain ⟨z1, e1⟩ := hE 1 (by omega)
  obtain ⟨z2, e2⟩ := hE 2 (by omega)
  obtain ⟨z3, e3⟩ := hE 3 (by omega)
  obtain ⟨z4, e4⟩ := hE 4 (by omega)
  obtain ⟨z5, e5⟩ := hE 5 (by omega)
  obtain ⟨z6, e6⟩ := hE 6 (by omega)
  obtain ⟨z7, e7⟩ := hE 7 (by omega)
  obtain ⟨z8, e8⟩ := hE 8 (by omega)
  obtain ⟨z9, e9⟩ := hE 9 (by omega)
  obtain ⟨z10, e10⟩ := hE 10 (by omega)
  obtain ⟨z11, e11⟩ := hE 11 (by omega)
  refine ⟨z0, z1, z2, z3, z4, z5, z6, z7, z8, z9, z10, z11, ?_⟩
  congr 1
  apply Array.ext_getElem?
  intro i
  match i with
  | 0 => simpa using e0
  | 1 => simpa using e1
  | 2 => simpa using e2
  | 3 => simpa using e3
  | 4 => simpa using e4
  | 5 => simpa using e5
  | 6 => simpa using e6
  | 7 => simpa using e7
  | 8 => simpa using e8
  | 9 => simpa using e9
  | 10 => simpa using e10
  | 11 => simpa using e11
  | i + 12 => simp [Array.getElem?_eq_none (show cs.size ≤ i + 12 by omega)]

theorem open_pre {H : Type} {enc : TypeId × Value → H} {W : World} {a : Option Addr} {len cap : Nat} {d : DataW H} {p : List MemPlace} (h : DataW.Trod enc Yba.prog W 0 (fun _ => true) true 22 (.slice a len cap) d p) :
    ∃ zs, Pre W a len cap zs := by
  obtain ⟨fuel, hf⟩ := h
  rcases open_ints Yba.underlying22 Yba.underlying5 (by kernel_rfl) hf with ⟨hcs, _⟩ | ⟨x, l, c, zs, hcs, _, hl, hm, hz, _, hcell, hwz⟩
  · simp [Value.cells] at hcs
    obtain ⟨rfl, rfl, rfl⟩ := hcs
    exact ⟨[], rfl, (fun _ => ⟨rfl, rfl⟩), (fun x hx => by cases hx)⟩
  · simp [Value.cells] at hcs
    obtain ⟨rfl, rfl, rfl⟩ := hcs
    have hz' : zs.length = cap := by simpa using hz
    refine ⟨zs.take len, (by simp; omega), (fun h => by cases h), ?_⟩
    intro y hy j u hu
    cases hy
    simp only [cellsZ, List.getElem?_map, List.getElem?_take] at hu
    split at hu
    · rename_i hj
      have hj2 : j < zs.length := by omega
      rw [List.getElem?_eq_getElem hj2] at hu
      simp at hu
      rw [hcell j hj2, ← hu]
      simp [List.getD, List.getElem?_eq_getElem hj2]
    · simp at hu

theorem open_words {H : Type} {enc : TypeId × Value → H} {W : World} {a : Option Addr} {len cap : Nat} {d : DataW H} {p : List MemPlace} (h : DataW.Trod enc Yba.prog W 0 (fun _ => true) true 28 (.slice a len cap) d p) :
    Words W a len := by
  obtain ⟨fuel, hf⟩ := h
  rcases open_ints Yba.underlying28 Yba.underlying30 (by kernel_rfl) hf with ⟨hcs, _⟩ | ⟨x, l, c, zs, hcs, _, hl, hm, hz, _, hcell, hwz⟩
  · simp [Value.cells] at hcs
    exact .inl hcs.2.1
  · simp [Value.cells] at hcs
    obtain ⟨rfl, rfl, rfl⟩ := hcs
    have hz' : zs.length = cap := by simpa using hz
    rcases Nat.eq_zero_or_pos len with h0 | hpos
    · exact .inl h0
    obtain ⟨b, o, spot⟩ := x
    have hspot : spot = none := by simpa [Addr.add] using World.cell?_spot (hcell 0 (by omega))
    subst hspot
    refine .inr ⟨b, o, rfl, fun j hj => ?_⟩
    have hj2 : j < zs.length := by omega
    have hmem : zs.getD j 0 ∈ zs := by simp [List.getD, List.getElem?_eq_getElem hj2]
    have hb := bounds_u16 (hwz _ hmem)
    refine ⟨(zs.getD j 0).toNat, by omega, ?_⟩
    have h1 := hcell j hj2
    rw [add_plain] at h1
    rw [h1, Int.toNat_of_nonneg (by omega)]

set_option maxHeartbeats 1000000 in
set_option maxRecDepth 100000 in
theorem walk (z0 z1 z2 z3 z4 z5 z6 z7 z8 z9 z10 z11 : Int) (a1 : Option Addr) (n cap1 : Nat) (kinds sel other : Int) (a5 : Option Addr) (p cap5 : Nat) (pay : List Int) (w : World) (hw : Words w a1 n) (hp : Pre w a5 p cap5 pay) (w3 : (Lit.int .u8 sel).wf = true) (w4 : (Lit.int .u16 other).wf = true) :
    Calls Yba.prog 4 #[.agg #[.int .u8 z0, .int .u8 z1, .int .u8 z2, .int .u8 z3, .int .u8 z4, .int .u8 z5, .int .u8 z6, .int .u8 z7, .int .u8 z8, .int .u8 z9, .int .u8 z10, .int .u8 z11], .slice a1 n cap1, .int .u64 kinds, .int .u8 sel, .int .u16 other, .slice a5 p cap5] w
      fun e w' => e = .returned (.bool true) ∧ Below w.heap.size w w' := by
  have hb3 := bounds_u8 w3
  have hb4 := bounds_u16 w4
  obtain ⟨S, rfl⟩ := Int.eq_ofNat_of_zero_le hb3.1
  obtain ⟨O, rfl⟩ := Int.eq_ofNat_of_zero_le hb4.1
  by_cases hn : n ≤ 1024
  · by_cases hpl : p ≤ 1024
    · exact built_any z0 z1 z2 z3 z4 z5 z6 z7 z8 z9 z10 z11 a1 n cap1 kinds S (by omega) O (by omega) a5 p cap5 pay w hw hp hn hpl
    · clear hw hp w3 w4 hb3 hb4
      go_enter Yba.func4, Yba.ntmps4
      go_wp2
      go_ret
      exact ⟨rfl, (Below.refl _ _).alloc (Nat.le_refl _) _⟩
  · clear hw hp w3 w4 hb3 hb4
    go_enter Yba.func4, Yba.ntmps4
    go_wp2
    go_ret
    exact ⟨rfl, (Below.refl _ _).alloc (Nat.le_refl _) _⟩

set_option maxRecDepth 100000 in
theorem lifted (os : Os) (started : os.Started) (H : Type) (enc : TypeId × Value → H) :
    ReturnsInHanded {} Yba.checked os 4 .any (Rows.lawS3544CBuiltSpec.pre6 enc Yba.prog Yba.f4 Rows.lawS3544CBuiltRow.domain false) (Rows.lawS3544CBuiltSpec.post enc Yba.prog Yba.f4 false true false false) := by
  refine returnsInHanded_of_change (C := Yba.checked) own started (by kernel_rfl) Yba.func4
    (ChangeSpec.witness6 (enc := enc) (C := Yba.checked) false ⟨#[], #[.agg #[.int .u8 0, .int .u8 0, .int .u8 0, .int .u8 0, .int .u8 0, .int .u8 0, .int .u8 0, .int .u8 0, .int .u8 0, .int .u8 0, .int .u8 0, .int .u8 0], .slice none 0 0, .int .u64 0, .int .u8 0, .int .u16 0, .slice none 0 0], []⟩ 8 (by kernel_rfl) (by kernel_rfl) (by kernel_rfl) (by kernel_rfl)) ?_
  intro W base args ds gs before hval0 hW hcnd _
  have hval : ∀ (j : Nat) t v, Yba.f4.params[j]? = some t → args[j]? = some v → Value.okWide Yba.prog W .any base t v := hval0
  have hW' := hW
  obtain ⟨p, q, hA0, hV, rfl, hfz, hnd⟩ := hW
  have hA : DataW.TrodAll enc Yba.prog W 0 (fun _ => true) true Yba.f4.params.toList args.toList ds p := hA0
  rw [Yba.params4] at hA hval
  obtain ⟨v0, vs0, d0, ds0, p0, q0, hargs, rfl, rfl, h0, r0⟩ := trodAll_cons hA
  obtain ⟨v1, vs1, d1, ds1, p1, q1, rfl, rfl, rfl, h1, r1⟩ := trodAll_cons r0
  obtain ⟨v2, vs2, d2, ds2, p2, q2, rfl, rfl, rfl, h2, r2⟩ := trodAll_cons r1
  obtain ⟨v3, vs3, d3, ds3, p3, q3, rfl, rfl, rfl, h3, r3⟩ := trodAll_cons r2
  obtain ⟨v4, vs4, d4, ds4, p4, q4, rfl, rfl, rfl, h4, r4⟩ := trodAll_cons r3
  obtain ⟨v5, vs5, d5, ds5, p5, q5, rfl, rfl, rfl, h5, r5⟩ := trodAll_cons r4
  obtain ⟨rfl, rfl, rfl⟩ := trodAll_nil r5
  obtain rfl : args = #[v0, v1, v2, v3, v4, v5] := by cases args; simp_all
  obtain ⟨rfl, rfl⟩ := trodVars_none hV
  obtain ⟨z0, z1, z2, z3, z4, z5, z6, z7, z8, z9, z10, z11, rfl⟩ := open_addrs (hval 0 27 v0 rfl rfl) h0
  have k0 := h0
  have lt0 : ∀ x ∈ p0, x.block < W.heap.size := by obtain ⟨m, hm⟩ := k0; exact DataW.trod_lt m _ _ _ hm
  obtain ⟨a1, len1, cap1, rfl⟩ := okWide_slice Yba.underlying28 (hval 1 28 v1 rfl rfl)
  have k1 := h1
  have lt1 : ∀ x ∈ p1, x.block < W.heap.size := by obtain ⟨m, hm⟩ := k1; exact DataW.trod_lt m _ _ _ hm
  have hwords := open_words h1
  obtain ⟨a2, rfl, rfl, rfl, w2⟩ := open_int Yba.underlying29 (hval 2 29 v2 rfl rfl) h2
  obtain ⟨a3, rfl, rfl, rfl, w3⟩ := open_int Yba.underlying5 (hval 3 5 v3 rfl rfl) h3
  obtain ⟨a4, rfl, rfl, rfl, w4⟩ := open_int Yba.underlying30 (hval 4 30 v4 rfl rfl) h4
  obtain ⟨a5, len5, cap5, rfl⟩ := okWide_slice Yba.underlying22 (hval 5 22 v5 rfl rfl)
  have k5 := h5
  have lt5 : ∀ x ∈ p5, x.block < W.heap.size := by obtain ⟨m, hm⟩ := k5; exact DataW.trod_lt m _ _ _ hm
  obtain ⟨zs, hpre⟩ := open_pre h5
  clear hA0 hval0
  refine (walk z0 z1 z2 z3 z4 z5 z6 z7 z8 z9 z10 z11 a1 len1 cap1 a2 a3 a4 a5 len5 cap5 zs W hwords hpre w3 w4).mono fun e W' ⟨he, bel⟩ => ?_
  subst he
  exact ⟨_, rfl, _, _, _, [], _, [], hW', trodAll_mk1 (shut_bool Yba.underlying4 _), (trodAll_cons_mk (Below.trod laidOut (by kernel_rfl) (of_decide_eq_true (by kernel_rfl)) k0 bel lt0) (trodAll_cons_mk (Below.trod laidOut (by kernel_rfl) (of_decide_eq_true (by kernel_rfl)) k1 bel lt1) (trodAll_cons_mk (shut_int Yba.underlying29 w2) (trodAll_cons_mk (shut_int Yba.underlying5 w3) (trodAll_cons_mk (shut_int Yba.underlying30 w4) (trodAll_cons_mk (Below.trod laidOut (by kernel_rfl) (of_decide_eq_true (by kernel_rfl)) k5 bel lt5) trodAll_mk0)))))), rfl, bel.frame _, fun h => by cases h⟩

theorem over : Rows.lawS3544CBuiltRow.holds Yba.pinned (OpenSpec.ofChange Rows.lawS3544CBuiltSpec) :=
  OpenClaim.holds_of_wide 4 Yba.f4 rfl rfl rfl rfl rfl rfl rfl ⟨rfl, rfl, rfl, rfl, rfl⟩ rfl rfl rfl rfl rfl (by kernel_rfl) Yba.func4 (by kernel_rfl)
    (of_decide_eq_true (by kernel_rfl)) (by unfold Func.isWrapper; first | (rw [if_pos (by decide +kernel)]; kernel_rfl) | (rw [if_neg (by decide +kernel)]; exact ⟨rfl, rfl⟩))
    (fun os started H enc _ => lifted os started H enc)

/-- The statement. -/
theorem proved : Rows.LawS3544CBuiltSaid := over
end Go.Proofs.Ybulkbuji.lawS3544CBuilt
