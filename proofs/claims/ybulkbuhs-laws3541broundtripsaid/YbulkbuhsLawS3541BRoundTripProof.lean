/- LawS3541BRoundTrip: the frame is the guide's shell turned to this function; the walk is in the texts it imports. -/
import Derived.Test.YbulkbuhsRows
import Derived.WalkKit
import Derived.ProofKit
import Derived.OpenShut
import Derived.ShutString
import Derived.ChangeOld
import Derived.Below
import Derived.Test.YbulkbuhsRt
namespace Go.Proofs.Ybulkbuhs.lawS3541BRoundTrip
open Go.ChangeShapes Go.WideShapes Go.ChangeAt Go.RowKit
open Go.ChangeMaps (open_string shut_string)
set_option linter.unusedVariables false

theorem own : ownKnob Yba.prog.godebug = none := by kernel_rfl
theorem laidOut : laidOutB Yba.prog = true := by kernel_rfl
theorem cells5 : Yba.prog.cellsOf 5 = 1 := by kernel_rfl
theorem cells23 : Yba.prog.cellsOf 23 = 4 := by kernel_rfl

theorem open_mask {H : Type} {enc : TypeId × Value → H} {W : World} {base : Nat} {v : Value} {d : DataW H} {p : List MemPlace} (hv : Value.okWide Yba.prog W .any base 23 v) (h : DataW.Trod enc Yba.prog W 0 (fun _ => true) true 23 v d p) :
    ∃ m0 m1 m2 m3 : Int, v = .agg #[.int .u8 m0, .int .u8 m1, .int .u8 m2, .int .u8 m3] ∧ (Lit.int .u8 m0).wf = true ∧ (Lit.int .u8 m1).wf = true ∧ (Lit.int .u8 m2).wf = true ∧ (Lit.int .u8 m3).wf = true := by
  simp only [Value.okWide, Yba.underlying23] at hv
  obtain ⟨cs, rfl, hsz, _⟩ := hv
  rw [cells23] at hsz
  obtain ⟨fuel, hf⟩ := h
  obtain ⟨xs, m, _, _, _, hxl, hi⟩ := DataW.trod_array Yba.underlying23 hf
  have hE : ∀ i, i < 4 → ∃ z : Int, cs[i]? = some (.int .u8 z) ∧ (Lit.int .u8 z).wf = true := by
    intro i hi4
    have h1 := hi i hi4
    rw [cells5] at h1
    rw [List.getElem?_eq_getElem (by omega)] at h1
    obtain ⟨z, hz, hrest⟩ := DataW.trod_int Yba.underlying5 h1
    have h2 : ((Value.agg cs).cells.toList.drop (i * 1)).take 1 = [.int .u8 z] := hz
    simp [Value.cells] at h2
    refine ⟨z, ?_, ?_⟩
    · have h3 := congrArg (fun l => l[0]?) h2
      simpa [List.getElem?_take, List.getElem?_drop] using h3
    · exact hrest.2
  obtain ⟨z0, e0, u0⟩ := hE 0 (by omega)
  obtain ⟨z1, e1, u1⟩ := hE 1 (by omega)
  obtain ⟨z2, e2, u2⟩ := hE 2 (by omega)
  obtain ⟨z3, e3, u3⟩ := hE 3 (by omega)
  refine ⟨z0, z1, z2, z3, ?_, u0, u1, u2, u3⟩
  congr 1
  apply Array.ext_getElem?
  intro i
  match i with
  | 0 => simpa using e0
  | 1 => simpa using e1
  | 2 => simpa using e2
  | 3 => simpa using e3
  | i + 4 => simp [Array.getElem?_eq_none (show cs.size ≤ i + 4 by omega)]

set_option maxRecDepth 100000 in
theorem lifted (os : Os) (started : os.Started) (H : Type) (enc : TypeId × Value → H) :
    ReturnsInHanded {} Yba.checked os 4 .any (Rows.lawS3541BRoundTripSpec.pre6 enc Yba.prog Yba.f4 Rows.lawS3541BRoundTripRow.domain false) (Rows.lawS3541BRoundTripSpec.post enc Yba.prog Yba.f4 false true false false) := by
  refine returnsInHanded_of_change (C := Yba.checked) own started (by kernel_rfl) Yba.func4
    (ChangeSpec.witness6 (enc := enc) (C := Yba.checked) false ⟨#[], #[.bool false, .int .u8 0, .bool false, .agg #[.int .u8 0, .int .u8 0, .int .u8 0, .int .u8 0], .int .i64 0], []⟩ 8 (by kernel_rfl) (by kernel_rfl) (by kernel_rfl) (by kernel_rfl)) ?_
  intro W base args ds gs before hval0 hW hcnd _
  have hval : ∀ (j : Nat) t v, Yba.f4.params[j]? = some t → args[j]? = some v → Value.okWide Yba.prog W .any base t v := hval0
  have hW' := hW
  obtain ⟨p, q, hA0, hV, rfl, hfz, hnd⟩ := hW
  have hA : DataW.TrodAll enc Yba.prog W 0 (fun _ => true) true Yba.f4.params.toList args.toList ds p := hA0
  rw [Yba.params4] at hA hval
  obtain ⟨v1, vs1, d1, ds1, p1, q1, hargs, rfl, rfl, h1, r1⟩ := trodAll_cons hA
  obtain ⟨v2, vs2, d2, ds2, p2, q2, rfl, rfl, rfl, h2, r2⟩ := trodAll_cons r1
  obtain ⟨v3, vs3, d3, ds3, p3, q3, rfl, rfl, rfl, h3, r3⟩ := trodAll_cons r2
  obtain ⟨v4, vs4, d4, ds4, p4, q4, rfl, rfl, rfl, h4, r4⟩ := trodAll_cons r3
  obtain ⟨v5, vs5, d5, ds5, p5, q5, rfl, rfl, rfl, h5, r5⟩ := trodAll_cons r4
  obtain ⟨rfl, rfl, rfl⟩ := trodAll_nil r5
  obtain rfl : args = #[v1, v2, v3, v4, v5] := by cases args; simp_all
  obtain ⟨rfl, rfl⟩ := trodVars_none hV
  obtain ⟨a1, rfl, rfl, rfl⟩ := open_bool Yba.underlying4 (hval 0 4 v1 rfl rfl) h1
  obtain ⟨a2, rfl, rfl, rfl, w2⟩ := open_int Yba.underlying5 (hval 1 5 v2 rfl rfl) h2
  obtain ⟨a3, rfl, rfl, rfl⟩ := open_bool Yba.underlying4 (hval 2 4 v3 rfl rfl) h3
  obtain ⟨m0, m1, m2, m3, rfl, u0, u1, u2, u3⟩ := open_mask (hval 3 23 v4 rfl rfl) h4
  have k4 := h4
  have lt4 : ∀ x ∈ p4, x.block < W.heap.size := by obtain ⟨m, hm⟩ := k4; exact DataW.trod_lt m _ _ _ hm
  obtain ⟨a5, rfl, rfl, rfl, w5⟩ := open_int Yba.underlying2 (hval 4 2 v5 rfl rfl) h5
  clear hA0 hval0
  have hw := bounds_u8 w2
  have hz := bounds_i64 w5
  have e2 : a2 = ((a2.toNat : Nat) : Int) := by omega
  have hcall := rt_any a1 a3 a2.toNat (by omega) m0 m1 m2 m3 u0 u1 u2 u3 a5 (by omega) (by omega) W
  rw [← e2] at hcall
  refine hcall.mono fun e W' ⟨he, bel⟩ => ?_
  subst he
  exact ⟨_, rfl, _, _, _, [], _, [], hW', trodAll_mk1 (shut_bool Yba.underlying4 _), (trodAll_cons_mk (shut_bool Yba.underlying4 _) (trodAll_cons_mk (shut_int Yba.underlying5 w2) (trodAll_cons_mk (shut_bool Yba.underlying4 _) (trodAll_cons_mk (Below.trod laidOut (by kernel_rfl) (of_decide_eq_true (by kernel_rfl)) k4 bel lt4) (trodAll_cons_mk (shut_int Yba.underlying2 w5) trodAll_mk0))))), rfl, bel.frame _, fun h => by cases h⟩

theorem over : Rows.lawS3541BRoundTripRow.holds Yba.pinned (OpenSpec.ofChange Rows.lawS3541BRoundTripSpec) :=
  OpenClaim.holds_of_wide 4 Yba.f4 rfl rfl rfl rfl rfl rfl rfl ⟨rfl, rfl, rfl, rfl, rfl⟩ rfl rfl rfl rfl rfl (by kernel_rfl) Yba.func4 (by kernel_rfl)
    (of_decide_eq_true (by kernel_rfl)) (by unfold Func.isWrapper; first | (rw [if_pos (by decide +kernel)]; kernel_rfl) | (rw [if_neg (by decide +kernel)]; exact ⟨rfl, rfl⟩))
    (fun os started H enc _ => lifted os started H enc)

/-- The statement. -/
theorem proved : Rows.LawS3541BRoundTripSaid := over
end Go.Proofs.Ybulkbuhs.lawS3541BRoundTrip
