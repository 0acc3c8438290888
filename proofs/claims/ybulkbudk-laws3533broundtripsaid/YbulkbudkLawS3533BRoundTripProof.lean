/- LawS3533BRoundTrip: the frame is the guide's shell for this function; the walk is filled in. -/
import Derived.Test.YbulkbudkRows
import Derived.WalkKit
import Derived.ProofKit
import Derived.OpenShut
import Derived.ShutString
import Derived.ChangeOld
import Derived.Below
import Derived.Test.YbulkbudkAny
import Derived.Laws.AppendOwnNone
namespace Go.Proofs.Ybulkbudk.lawS3533BRoundTrip
open Go.ChangeShapes Go.WideShapes Go.ChangeAt Go.RowKit
open Go.ChangeMaps (open_string shut_string)
set_option linter.unusedVariables false

theorem own : ownKnob Yba.prog.godebug = none := by kernel_rfl
theorem laidOut : laidOutB Yba.prog = true := by kernel_rfl

/-- WHAT THE WALK IS TOLD OF A SLICE OF INTEGERS THAT CAME IN: it is nil; or it leads to a row of 'cap' cells, the numbers 'zs' (the first 'len' are its elements, the rest its spare room), each fitting its kind. -/
def IsRow (k : IntKind) (w : World) (a : Option Addr) (len cap : Nat) (zs : List Int) : Prop :=
  (a = none ∧ len = 0 ∧ cap = 0 ∧ zs = []) ∨
  ∃ x, a = some x ∧ len ≤ cap ∧ cap ≤ maxLen ∧ zs.length = cap ∧ (∀ i, i < zs.length → w.cell? (x.add i) = some (.int k (zs.getD i 0))) ∧ ∀ n ∈ zs, (Lit.int k n).wf = true

theorem nat_of_u64 {a : Int} (h : (Lit.int .u64 a).wf = true) : ∃ n : Nat, a = (n : Int) ∧ n < 18446744073709551616 := by
  have := bounds_u64 h
  exact ⟨a.toNat, by omega, by omega⟩

/-- Behind the second append: the bytes are read and held against the fields. -/
theorem row_bytes (zs : List Int) (h : ∀ n ∈ zs, (Lit.int .u8 n).wf = true) : zs.map (Value.int .u8) = Lib.byteCells (zs.map fun n => UInt8.ofNat n.toNat) := by
  simp only [Lib.byteCells, List.map_map]
  refine List.map_congr_left fun n hn => ?_
  have := bounds_u8 (h n hn)
  simp only [Function.comp]
  congr 1
  rw [UInt8.toNat_ofNat']
  omega

set_option maxHeartbeats 1000000 in
theorem core (base head tail : Nat) (hh : head < 18446744073709551616) (ht : tail < 18446744073709551616) (ed fi : Bool) (mid : ByteArray) (hm : mid.size ≤ 4096) (a6 : Option Addr) (len6 cap6 : Nat) (z6 : List Int) (w : World) (w6 : IsRow .u8 w a6 len6 cap6 z6) (h6 : len6 ≤ 4096) :
    Calls Yba.prog 5 #[.int .u64 base, .bool ed, .bool fi, .int .u64 head, .int .u64 tail, .string mid, .slice a6 len6 cap6] w fun e w' => e = .returned (.bool true) ∧ Below w.heap.size w w' := by
  have hm2 : mid.data.toList.length < 18446744073709551616 := by rw [len_toList]; omega
  have hL := enc_le base ed fi head tail mid.data.toList hh ht hm2
  have hP := enc_pos base ed fi head tail mid.data.toList
  rw [len_toList] at hL
  have C1 := hid (entry_any w.heap.size 0 base head tail hh ht ed fi mid hm (.slice none 0 0) [] w (World.ownsRow_nil _ _ _ _) (Nat.le_refl _) (by omega))
  have C2 := hid (fun (g o n c : Nat) (l rest : List UInt8) (W : World) hl hcell he hnc hc => read_any g o n c l base head tail hh ht ed fi mid rest hm W hl hcell he hnc hc)
  have C3 := hid (fun W => ok_any base head tail ed fi mid W)
  generalize hE : enc base ed fi head tail mid.data.toList = E at *
  generalize hN : E.length = N at *
  clear hE hm2 hh ht
  -- behind the reading
  have HN := hid hN
  clear hN
  rcases w6 with ⟨rfl, rfl, rfl, rfl⟩ | ⟨x, rfl, hlc, hcm, hzl, hcell, hwz⟩
  · go_enter Yba.func5, Yba.ntmps5
    go_wp2_with fail
    refine C1.out.mono ?_
    rintro e w1 ⟨v1, rfl, hown1, hb1⟩
    rw [Nat.zero_add, List.nil_append] at hown1
    have HO := hid hown1
    obtain ⟨g, c, rfl, hnc, hc, hg, hgl, hlen, hlies⟩ := lies_of_owns hown1 hP
    clear hown1 hlen
    go_wp2_with (at_builtin; refine app5_none rfl _ _ rfl w.heap.size _ _ _ rfl HO.out rfl ?_)
    refine (C2.out g 0 N c E [] w1 HN.out hlies (by simp) hnc hc).mono ?_
    rintro e w2 ⟨rfl, hb2⟩
    have hs1 := hb1.size
    have hs2 := hb2.size
    go_wp2_with fail
    refine (C3.out _).mono ?_
    rintro e w3 ⟨rfl, hb3⟩
    go_wp2
    go_ret
    refine ⟨rfl, ?_⟩
    exact ((hb1.trans (hb2.mono hs1)).alloc (by omega) _).trans (hb3.mono (by simp; omega))
  · obtain ⟨zs, hzs⟩ : ∃ zs, zs = z6.take len6 := ⟨_, rfl⟩
    have hzslen : zs.length = len6 := by rw [hzs]; simp; omega
    have hwzs : ∀ n ∈ zs, (Lit.int .u8 n).wf = true := fun n hn => hwz n (List.mem_of_mem_take (hzs ▸ hn))
    have hcz : ∀ j u, (zs.map (Value.int .u8))[j]? = some u → w.cell? (x.add j) = some u := by
      intro j u hu
      rw [List.getElem?_map, hzs, List.getElem?_take] at hu
      split at hu
      · rename_i hj
        have hj2 : j < z6.length := by omega
        rw [List.getElem?_eq_getElem hj2] at hu
        simp at hu
        rw [hcell j hj2, ← hu]
        simp [List.getD, List.getElem?_eq_getElem hj2]
      · simp at hu
    have hxb : zs.length = 0 ∨ x.block < w.heap.size := by
      rcases Nat.eq_zero_or_pos zs.length with h | h
      · exact .inl h
      · exact .inr (by have := World.block_lt_of_cell? _ _ (hcell 0 (by omega)); simpa [Addr.add] using this)
    have HX := hid hxb
    have HCZ := hid hcz
    have HWZ := hid hwzs
    have HLZ := hid hzslen
    clear hxb hcz hwzs hzslen hcell hwz hzs hzl hlc
    unfold maxLen at hcm
    go_enter Yba.func5, Yba.ntmps5
    go_wp2_with fail
    refine C1.out.mono ?_
    rintro e w1 ⟨v1, rfl, hown1, hb1⟩
    rw [Nat.zero_add, List.nil_append] at hown1
    have HO := hid hown1
    obtain ⟨g, c, rfl, hnc, hc, hg, hgl, hlen, hlies⟩ := lies_of_owns hown1 hP
    clear hown1 hlen hlies
    have hs1 := hb1.size
    have HCW : Hid (∀ j u, (zs.map (Value.int .u8))[j]? = some u → w1.cell? (x.add j) = some u) := by
      intro j u hu
      have h1 := HCZ.out j u hu
      have hlt : (x.add j).block < w.heap.size := World.block_lt_of_cell? _ _ h1
      rw [hb1.cell hlt]
      exact h1
    go_wp2_with (at_builtin; refine app5 rfl _ _ rfl w.heap.size _ _ _ rfl HO.out x len6 cap6 (zs.map (Value.int .u8)) rfl ?c1 HCW.out (ints_oneCell _ _) ?c2 ?c3 ?c4 ?_)
    case c1 => simp [HLZ.out]
    case c2 => unfold maxLen; omega
    case c3 => omega
    case c4 => omega
    intro v2 w2 hown2 hgrow2
    have hb2 : Below w.heap.size w w2 := hb1.grown hgrow2 hs1 (fun k hk => (HO.out.lt k hk).1)
    have hs2 := hb2.size
    rw [row_bytes zs HWZ.out, ← byteCells_app] at hown2
    obtain ⟨g2, c2, rfl, hnc2, hc2, hg2, hgl2, hlen2, hlies2⟩ := lies_of_owns hown2 (by omega)
    have HL2 := hid hlen2
    clear hown2 hlen2
    go_wp2_with fail
    refine (C2.out g2 0 _ c2 _ _ w2 HL2.out hlies2 rfl hnc2 hc2).mono ?_
    rintro e w3 ⟨rfl, hb3⟩
    have hs3 := hb3.size
    go_wp2_with fail
    refine (C3.out _).mono ?_
    rintro e w4 ⟨rfl, hb4⟩
    go_wp2
    go_ret
    refine ⟨rfl, ?_⟩
    exact ((hb2.trans (hb3.mono hs2)).alloc (by omega) _).trans (hb4.mono (by simp; omega))

theorem walk (a0 : Int) (a1 : Bool) (a2 : Bool) (a3 : Int) (a4 : Int) (a5 : ByteArray) (a6 : Option Addr) (len6 cap6 : Nat) (z6 : List Int) (w : World) (w0 : (Lit.int .u64 a0).wf = true) (w3 : (Lit.int .u64 a3).wf = true) (w4 : (Lit.int .u64 a4).wf = true) (w5 : a5.size ≤ maxLen) (w6 : IsRow .u8 w a6 len6 cap6 z6) :
    Calls Yba.prog 5 #[.int .u64 a0, .bool a1, .bool a2, .int .u64 a3, .int .u64 a4, .string a5, .slice a6 len6 cap6] w fun e w' => e = .returned (.bool true) ∧ Below w.heap.size w w' := by
  obtain ⟨base, rfl, _⟩ := nat_of_u64 w0
  obtain ⟨head, rfl, hh⟩ := nat_of_u64 w3
  obtain ⟨tail, rfl, ht⟩ := nat_of_u64 w4
  unfold maxLen at w5
  by_cases h5 : a5.size ≤ 4096
  · by_cases h6 : len6 ≤ 4096
    · exact core base head tail hh ht a1 a2 a5 h5 a6 len6 cap6 z6 w w6 h6
    · clear w6 hh ht
      go_enter Yba.func5, Yba.ntmps5
      go_wp2
      go_ret
      exact ⟨rfl, Below.refl _ _⟩
  · clear w6 hh ht
    go_enter Yba.func5, Yba.ntmps5
    go_wp2
    go_ret
    exact ⟨rfl, Below.refl _ _⟩

set_option maxRecDepth 100000 in
theorem lifted (os : Os) (started : os.Started) (H : Type) (enc : TypeId × Value → H) :
    ReturnsInHanded {} Yba.checked os 5 .any (Rows.lawS3533BRoundTripSpec.pre6 enc Yba.prog Yba.f5 Rows.lawS3533BRoundTripRow.domain false) (Rows.lawS3533BRoundTripSpec.post enc Yba.prog Yba.f5 false true false false) := by
  refine returnsInHanded_of_change (C := Yba.checked) own started (by kernel_rfl) Yba.func5
    (ChangeSpec.witness6 (enc := enc) (C := Yba.checked) false ⟨#[], #[.int .u64 0, .bool false, .bool false, .int .u64 0, .int .u64 0, .string ByteArray.empty, .slice none 0 0], []⟩ 8 (by kernel_rfl) (by kernel_rfl) (by kernel_rfl) (by kernel_rfl)) ?_
  intro W base args ds gs before hval0 hW hcnd _
  have hval : ∀ (j : Nat) t v, Yba.f5.params[j]? = some t → args[j]? = some v → Value.okWide Yba.prog W .any base t v := hval0
  have hW' := hW
  obtain ⟨p, q, hA0, hV, rfl, hfz, hnd⟩ := hW
  have hA : DataW.TrodAll enc Yba.prog W 0 (fun _ => true) true Yba.f5.params.toList args.toList ds p := hA0
  rw [Yba.params5] at hA hval
  obtain ⟨v0, vs0, d0, ds0, p0, q0, hargs, rfl, rfl, h0, r0⟩ := trodAll_cons hA
  obtain ⟨v1, vs1, d1, ds1, p1, q1, rfl, rfl, rfl, h1, r1⟩ := trodAll_cons r0
  obtain ⟨v2, vs2, d2, ds2, p2, q2, rfl, rfl, rfl, h2, r2⟩ := trodAll_cons r1
  obtain ⟨v3, vs3, d3, ds3, p3, q3, rfl, rfl, rfl, h3, r3⟩ := trodAll_cons r2
  obtain ⟨v4, vs4, d4, ds4, p4, q4, rfl, rfl, rfl, h4, r4⟩ := trodAll_cons r3
  obtain ⟨v5, vs5, d5, ds5, p5, q5, rfl, rfl, rfl, h5, r5⟩ := trodAll_cons r4
  obtain ⟨v6, vs6, d6, ds6, p6, q6, rfl, rfl, rfl, h6, r6⟩ := trodAll_cons r5
  obtain ⟨rfl, rfl, rfl⟩ := trodAll_nil r6
  obtain rfl : args = #[v0, v1, v2, v3, v4, v5, v6] := by cases args; simp_all
  obtain ⟨rfl, rfl⟩ := trodVars_none hV
  obtain ⟨a0, rfl, rfl, rfl, w0⟩ := open_int Yba.underlying40 (hval 0 40 v0 rfl rfl) h0
  obtain ⟨a1, rfl, rfl, rfl⟩ := open_bool Yba.underlying4 (hval 1 4 v1 rfl rfl) h1
  obtain ⟨a2, rfl, rfl, rfl⟩ := open_bool Yba.underlying4 (hval 2 4 v2 rfl rfl) h2
  obtain ⟨a3, rfl, rfl, rfl, w3⟩ := open_int Yba.underlying40 (hval 3 40 v3 rfl rfl) h3
  obtain ⟨a4, rfl, rfl, rfl, w4⟩ := open_int Yba.underlying40 (hval 4 40 v4 rfl rfl) h4
  obtain ⟨a5, rfl, rfl, rfl, w5⟩ := open_string Yba.underlying9 (hval 5 9 v5 rfl rfl) h5
  obtain ⟨a6, len6, cap6, rfl⟩ := okWide_slice Yba.underlying41 (hval 6 41 v6 rfl rfl)
  have k6 := h6
  have lt6 : ∀ x ∈ p6, x.block < W.heap.size := by obtain ⟨m, hm⟩ := k6; exact DataW.trod_lt m _ _ _ hm
  obtain ⟨z6, w6⟩ : ∃ zs, IsRow .u8 W a6 len6 cap6 zs := by
    obtain ⟨fuel, hf⟩ := h6
    rcases open_ints Yba.underlying41 Yba.underlying5 (by kernel_rfl) hf with ⟨hcs, _⟩ | ⟨x, l, c, zs, hcs, _, hl, hm, hz, _, hcell, hwz⟩
    · simp [Value.cells] at hcs
      obtain ⟨rfl, rfl, rfl⟩ := hcs
      exact ⟨[], .inl ⟨rfl, rfl, rfl, rfl⟩⟩
    · simp [Value.cells] at hcs
      obtain ⟨rfl, rfl, rfl⟩ := hcs
      exact ⟨zs, .inr ⟨_, rfl, hl, hm, by simpa using hz, hcell, hwz⟩⟩
  clear hA0 hval0
  refine (walk a0 a1 a2 a3 a4 a5 a6 len6 cap6 z6 W w0 w3 w4 w5 w6).mono fun e W' ⟨he, bel⟩ => ?_
  subst he
  exact ⟨_, rfl, _, _, _, [], _, [], hW', trodAll_mk1 (shut_bool Yba.underlying4 _), (trodAll_cons_mk (shut_int Yba.underlying40 w0) (trodAll_cons_mk (shut_bool Yba.underlying4 _) (trodAll_cons_mk (shut_bool Yba.underlying4 _) (trodAll_cons_mk (shut_int Yba.underlying40 w3) (trodAll_cons_mk (shut_int Yba.underlying40 w4) (trodAll_cons_mk (shut_string Yba.underlying9 w5) (trodAll_cons_mk (Below.trod laidOut (by kernel_rfl) (of_decide_eq_true (by kernel_rfl)) k6 bel lt6) trodAll_mk0))))))), rfl, bel.frame _, fun h => by cases h⟩

theorem over : Rows.lawS3533BRoundTripRow.holds Yba.pinned (OpenSpec.ofChange Rows.lawS3533BRoundTripSpec) :=
  OpenClaim.holds_of_wide 5 Yba.f5 rfl rfl rfl rfl rfl rfl rfl ⟨rfl, rfl, rfl, rfl, rfl⟩ rfl rfl rfl rfl rfl (by kernel_rfl) Yba.func5 (by kernel_rfl)
    (of_decide_eq_true (by kernel_rfl)) (by unfold Func.isWrapper; first | (rw [if_pos (by decide +kernel)]; kernel_rfl) | (rw [if_neg (by decide +kernel)]; exact ⟨rfl, rfl⟩))
    (fun os started H enc _ => lifted os started H enc)

/-- The statement. -/
theorem proved : Rows.LawS3533BRoundTripSaid := over
end Go.Proofs.Ybulkbudk.lawS3533BRoundTrip
