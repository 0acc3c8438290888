/- LawS3541BRoundTrip at every input: the walks put together. -/
import Derived.Test.YbulkbuhsRtS
import Derived.Test.YbulkbuhsRtM
import Derived.Test.YbulkbuhsRtL
import Derived.Test.YbulkbuhsParse
import Derived.Test.YbulkbuhsAfh
namespace Go.Proofs.Ybulkbuhs
open Go.RowKit

theorem full_nil (w : World) : Full w (.slice none 0 0) 0 [] := ⟨none, rfl, fun _ => rfl, rfl, fun b h => by cases h⟩
theorem op8' (op : Nat) (h : op < 256) : bits .and .u8 (op : Int) 8 = if ctl (op % 16) then 8 else 0 := by
  rw [and8 op h]
  unfold ctl
  have e : op % 16 / 8 % 2 = op / 8 % 2 := by omega
  rw [e]
  rcases Nat.mod_two_eq_zero_or_one (op / 8) with h | h <;> simp [h]

theorem afh0_small (fin masked : Bool) (o : Nat) (m0 m1 m2 m3 : Int) (N : Nat) (hN : N ≤ 125) (n : Nat) (hn : (hdrS fin o masked m0 m1 m2 m3 N).length = n) (W : World) :
    Calls Yba.prog 5 #[.slice none 0 0, .agg #[.bool fin, .int .u8 o, .bool masked, .int .u8 m0, .int .u8 m1, .int .u8 m2, .int .u8 m3, .int .i64 N]] W fun e w' => ∃ v', e = .returned v' ∧ w'.ownsRow (W.heap.size + 1 + 1) 5 1 v' n (cellsZ (hdrS fin o masked m0 m1 m2 m3 N)) ∧ Below W.heap.size W w' := by
  refine (afh_small 0 (.slice none 0 0) [] fin masked o m0 m1 m2 m3 N (by omega) W (full_nil W) (by omega)).mono ?_
  rintro e w' ⟨v', rfl, h, hb⟩
  exact ⟨v', rfl, own_to h (by omega) (by simp), hb⟩
theorem parse0_small (fin masked : Bool) (o : Nat) (ho : o < 16) (m0 m1 m2 m3 : Int) (N : Nat) (hN : N ≤ 125) (n : Nat) (bad : Bool) (hn : (hdrS fin o masked m0 m1 m2 m3 N).length = n) (hbad : (ctl o && !fin) = bad) (W : World) (g c : Nat) (hc : n ≤ c) (hc2 : c ≤ 9223372036854775807)
    (hcell : ∀ j, j < n → W.cell? ⟨g, 0 + j, none⟩ = some (.int .u8 ((hdrS fin o masked m0 m1 m2 m3 N).getD j 0))) :
    Calls Yba.prog 7 #[.slice (some ⟨g, 0, none⟩) n c] W fun e w' => ∃ v, e = .returned (.tuple #[.agg #[.bool fin, .int .u8 o, .bool masked, .int .u8 (mk masked m0), .int .u8 (mk masked m1), .int .u8 (mk masked m2), .int .u8 (mk masked m3), .int .i64 N], v]) ∧ Fault bad v ∧ Below W.heap.size W w' := by
  subst hn hbad
  exact parse_small fin masked o ho m0 m1 m2 m3 N hN W g c hc hc2 hcell
set_option maxRecDepth 100000 in
theorem rt_small (fin masked : Bool) (op : Nat) (hop : op < 256) (m0 m1 m2 m3 : Int) (h0 : (Lit.int .u8 m0).wf = true) (h1 : (Lit.int .u8 m1).wf = true) (h2 : (Lit.int .u8 m2).wf = true) (h3 : (Lit.int .u8 m3).wf = true) (N : Nat) (hN : N ≤ 125) (w : World) :
    Calls Yba.prog 4 #[.bool fin, .int .u8 op, .bool masked, .agg #[.int .u8 m0, .int .u8 m1, .int .u8 m2, .int .u8 m3], .int .i64 N] w (fun e w' => e = .returned (.bool true) ∧ Below w.heap.size w w') ∧
    Calls Yba.prog 4 #[.bool fin, .int .u8 op, .bool masked, .agg #[.int .u8 m0, .int .u8 m1, .int .u8 m2, .int .u8 m3], .int .i64 (-(N : Int) - 1)] w (fun e w' => e = .returned (.bool true) ∧ Below w.heap.size w w') := by
  have f6 := and15 op hop
  have f5 := op8' op hop
  have ho : op % 16 < 16 := by omega
  cases hk : ctl (op % 16) <;> rw [hk] at f5 <;> cases fin <;> cases masked
  · have hl : (hdrS false (op % 16 : Nat) false m0 m1 m2 m3 N).length = 2 := by simp [hdrS, maskZ]
    have H5 := hid (afh0_small false false (op % 16) m0 m1 m2 m3 N hN 2 hl)
    have H7 := hid (parse0_small false false (op % 16) ho m0 m1 m2 m3 N hN 2 false hl (by simp [hk]))
    exact ⟨rt_small_fff_p op _ m0 m1 m2 m3 h0 h1 h2 h3 N hN w f5 f6 _ H5 H7, rt_small_fff_n op _ m0 m1 m2 m3 h0 h1 h2 h3 N hN w f5 f6 _ H5 H7⟩
  · have hl : (hdrS false (op % 16 : Nat) true m0 m1 m2 m3 N).length = 6 := by simp [hdrS, maskZ]
    have H5 := hid (afh0_small false true (op % 16) m0 m1 m2 m3 N hN 6 hl)
    have H7 := hid (parse0_small false true (op % 16) ho m0 m1 m2 m3 N hN 6 false hl (by simp [hk]))
    exact ⟨rt_small_ftf_p op _ m0 m1 m2 m3 h0 h1 h2 h3 N hN w f5 f6 _ H5 H7, rt_small_ftf_n op _ m0 m1 m2 m3 h0 h1 h2 h3 N hN w f5 f6 _ H5 H7⟩
  · have hl : (hdrS true (op % 16 : Nat) false m0 m1 m2 m3 N).length = 2 := by simp [hdrS, maskZ]
    have H5 := hid (afh0_small true false (op % 16) m0 m1 m2 m3 N hN 2 hl)
    have H7 := hid (parse0_small true false (op % 16) ho m0 m1 m2 m3 N hN 2 false hl (by simp [hk]))
    exact ⟨rt_small_tff_p op _ m0 m1 m2 m3 h0 h1 h2 h3 N hN w f5 f6 _ H5 H7, rt_small_tff_n op _ m0 m1 m2 m3 h0 h1 h2 h3 N hN w f5 f6 _ H5 H7⟩
  · have hl : (hdrS true (op % 16 : Nat) true m0 m1 m2 m3 N).length = 6 := by simp [hdrS, maskZ]
    have H5 := hid (afh0_small true true (op % 16) m0 m1 m2 m3 N hN 6 hl)
    have H7 := hid (parse0_small true true (op % 16) ho m0 m1 m2 m3 N hN 6 false hl (by simp [hk]))
    exact ⟨rt_small_ttf_p op _ m0 m1 m2 m3 h0 h1 h2 h3 N hN w f5 f6 _ H5 H7, rt_small_ttf_n op _ m0 m1 m2 m3 h0 h1 h2 h3 N hN w f5 f6 _ H5 H7⟩
  · have hl : (hdrS false (op % 16 : Nat) false m0 m1 m2 m3 N).length = 2 := by simp [hdrS, maskZ]
    have H5 := hid (afh0_small false false (op % 16) m0 m1 m2 m3 N hN 2 hl)
    have H7 := hid (parse0_small false false (op % 16) ho m0 m1 m2 m3 N hN 2 true hl (by simp [hk]))
    exact ⟨rt_small_fft_p op _ m0 m1 m2 m3 h0 h1 h2 h3 N hN w f5 f6 _ H5 H7, rt_small_fft_n op _ m0 m1 m2 m3 h0 h1 h2 h3 N hN w f5 f6 _ H5 H7⟩
  · have hl : (hdrS false (op % 16 : Nat) true m0 m1 m2 m3 N).length = 6 := by simp [hdrS, maskZ]
    have H5 := hid (afh0_small false true (op % 16) m0 m1 m2 m3 N hN 6 hl)
    have H7 := hid (parse0_small false true (op % 16) ho m0 m1 m2 m3 N hN 6 true hl (by simp [hk]))
    exact ⟨rt_small_ftt_p op _ m0 m1 m2 m3 h0 h1 h2 h3 N hN w f5 f6 _ H5 H7, rt_small_ftt_n op _ m0 m1 m2 m3 h0 h1 h2 h3 N hN w f5 f6 _ H5 H7⟩
  · have hl : (hdrS true (op % 16 : Nat) false m0 m1 m2 m3 N).length = 2 := by simp [hdrS, maskZ]
    have H5 := hid (afh0_small true false (op % 16) m0 m1 m2 m3 N hN 2 hl)
    have H7 := hid (parse0_small true false (op % 16) ho m0 m1 m2 m3 N hN 2 false hl (by simp [hk]))
    exact ⟨rt_small_tft_p op _ m0 m1 m2 m3 h0 h1 h2 h3 N hN w f5 f6 _ H5 H7, rt_small_tft_n op _ m0 m1 m2 m3 h0 h1 h2 h3 N hN w f5 f6 _ H5 H7⟩
  · have hl : (hdrS true (op % 16 : Nat) true m0 m1 m2 m3 N).length = 6 := by simp [hdrS, maskZ]
    have H5 := hid (afh0_small true true (op % 16) m0 m1 m2 m3 N hN 6 hl)
    have H7 := hid (parse0_small true true (op % 16) ho m0 m1 m2 m3 N hN 6 false hl (by simp [hk]))
    exact ⟨rt_small_ttt_p op _ m0 m1 m2 m3 h0 h1 h2 h3 N hN w f5 f6 _ H5 H7, rt_small_ttt_n op _ m0 m1 m2 m3 h0 h1 h2 h3 N hN w f5 f6 _ H5 H7⟩

theorem afh0_mid (fin masked : Bool) (o : Nat) (m0 m1 m2 m3 : Int) (N : Nat) (hN0 : 125 < N) (hN : N ≤ 65535) (n : Nat) (hn : (hdrM fin o masked m0 m1 m2 m3 N).length = n) (W : World) :
    Calls Yba.prog 5 #[.slice none 0 0, .agg #[.bool fin, .int .u8 o, .bool masked, .int .u8 m0, .int .u8 m1, .int .u8 m2, .int .u8 m3, .int .i64 N]] W fun e w' => ∃ v', e = .returned v' ∧ w'.ownsRow (W.heap.size + 1 + 1) 5 1 v' n (cellsZ (hdrM fin o masked m0 m1 m2 m3 N)) ∧ Below W.heap.size W w' := by
  refine (afh_mid 0 (.slice none 0 0) [] fin masked o m0 m1 m2 m3 N hN0 hN W (full_nil W) (by omega)).mono ?_
  rintro e w' ⟨v', rfl, h, hb⟩
  exact ⟨v', rfl, own_to h (by omega) (by simp), hb⟩
theorem parse0_mid (fin masked : Bool) (o : Nat) (ho : o < 16) (m0 m1 m2 m3 : Int) (N : Nat) (hN0 : 125 < N) (hN : N ≤ 65535) (n : Nat) (bad : Bool) (hn : (hdrM fin o masked m0 m1 m2 m3 N).length = n) (hbad : (ctl o) = bad) (W : World) (g c : Nat) (hc : n ≤ c) (hc2 : c ≤ 9223372036854775807)
    (hcell : ∀ j, j < n → W.cell? ⟨g, 0 + j, none⟩ = some (.int .u8 ((hdrM fin o masked m0 m1 m2 m3 N).getD j 0))) :
    Calls Yba.prog 7 #[.slice (some ⟨g, 0, none⟩) n c] W fun e w' => ∃ v, e = .returned (.tuple #[.agg #[.bool fin, .int .u8 o, .bool masked, .int .u8 (mk masked m0), .int .u8 (mk masked m1), .int .u8 (mk masked m2), .int .u8 (mk masked m3), .int .i64 N], v]) ∧ Fault bad v ∧ Below W.heap.size W w' := by
  subst hn hbad
  exact parse_mid fin masked o ho m0 m1 m2 m3 N hN0 hN W g c hc hc2 hcell
set_option maxRecDepth 100000 in
theorem rt_mid (fin masked : Bool) (op : Nat) (hop : op < 256) (m0 m1 m2 m3 : Int) (h0 : (Lit.int .u8 m0).wf = true) (h1 : (Lit.int .u8 m1).wf = true) (h2 : (Lit.int .u8 m2).wf = true) (h3 : (Lit.int .u8 m3).wf = true) (N : Nat) (hN0 : 125 < N) (hN : N ≤ 65535) (w : World) :
    Calls Yba.prog 4 #[.bool fin, .int .u8 op, .bool masked, .agg #[.int .u8 m0, .int .u8 m1, .int .u8 m2, .int .u8 m3], .int .i64 N] w (fun e w' => e = .returned (.bool true) ∧ Below w.heap.size w w') ∧
    Calls Yba.prog 4 #[.bool fin, .int .u8 op, .bool masked, .agg #[.int .u8 m0, .int .u8 m1, .int .u8 m2, .int .u8 m3], .int .i64 (-(N : Int) - 1)] w (fun e w' => e = .returned (.bool true) ∧ Below w.heap.size w w') := by
  have f6 := and15 op hop
  have f5 := op8' op hop
  have ho : op % 16 < 16 := by omega
  cases hk : ctl (op % 16) <;> rw [hk] at f5 <;> cases fin <;> cases masked
  · have hl : (hdrM false (op % 16 : Nat) false m0 m1 m2 m3 N).length = 4 := by simp [hdrM, maskZ, be2]
    have H5 := hid (afh0_mid false false (op % 16) m0 m1 m2 m3 N hN0 hN 4 hl)
    have H7 := hid (parse0_mid false false (op % 16) ho m0 m1 m2 m3 N hN0 hN 4 false hl (by simp [hk]))
    exact ⟨rt_mid_fff_p op _ m0 m1 m2 m3 h0 h1 h2 h3 N hN0 hN w f5 f6 _ H5 H7, rt_mid_fff_n op _ m0 m1 m2 m3 h0 h1 h2 h3 N hN0 hN w f5 f6 _ H5 H7⟩
  · have hl : (hdrM false (op % 16 : Nat) true m0 m1 m2 m3 N).length = 8 := by simp [hdrM, maskZ, be2]
    have H5 := hid (afh0_mid false true (op % 16) m0 m1 m2 m3 N hN0 hN 8 hl)
    have H7 := hid (parse0_mid false true (op % 16) ho m0 m1 m2 m3 N hN0 hN 8 false hl (by simp [hk]))
    exact ⟨rt_mid_ftf_p op _ m0 m1 m2 m3 h0 h1 h2 h3 N hN0 hN w f5 f6 _ H5 H7, rt_mid_ftf_n op _ m0 m1 m2 m3 h0 h1 h2 h3 N hN0 hN w f5 f6 _ H5 H7⟩
  · have hl : (hdrM true (op % 16 : Nat) false m0 m1 m2 m3 N).length = 4 := by simp [hdrM, maskZ, be2]
    have H5 := hid (afh0_mid true false (op % 16) m0 m1 m2 m3 N hN0 hN 4 hl)
    have H7 := hid (parse0_mid true false (op % 16) ho m0 m1 m2 m3 N hN0 hN 4 false hl (by simp [hk]))
    exact ⟨rt_mid_tff_p op _ m0 m1 m2 m3 h0 h1 h2 h3 N hN0 hN w f5 f6 _ H5 H7, rt_mid_tff_n op _ m0 m1 m2 m3 h0 h1 h2 h3 N hN0 hN w f5 f6 _ H5 H7⟩
  · have hl : (hdrM true (op % 16 : Nat) true m0 m1 m2 m3 N).length = 8 := by simp [hdrM, maskZ, be2]
    have H5 := hid (afh0_mid true true (op % 16) m0 m1 m2 m3 N hN0 hN 8 hl)
    have H7 := hid (parse0_mid true true (op % 16) ho m0 m1 m2 m3 N hN0 hN 8 false hl (by simp [hk]))
    exact ⟨rt_mid_ttf_p op _ m0 m1 m2 m3 h0 h1 h2 h3 N hN0 hN w f5 f6 _ H5 H7, rt_mid_ttf_n op _ m0 m1 m2 m3 h0 h1 h2 h3 N hN0 hN w f5 f6 _ H5 H7⟩
  · have hl : (hdrM false (op % 16 : Nat) false m0 m1 m2 m3 N).length = 4 := by simp [hdrM, maskZ, be2]
    have H5 := hid (afh0_mid false false (op % 16) m0 m1 m2 m3 N hN0 hN 4 hl)
    have H7 := hid (parse0_mid false false (op % 16) ho m0 m1 m2 m3 N hN0 hN 4 true hl (by simp [hk]))
    exact ⟨rt_mid_fft_p op _ m0 m1 m2 m3 h0 h1 h2 h3 N hN0 hN w f5 f6 _ H5 H7, rt_mid_fft_n op _ m0 m1 m2 m3 h0 h1 h2 h3 N hN0 hN w f5 f6 _ H5 H7⟩
  · have hl : (hdrM false (op % 16 : Nat) true m0 m1 m2 m3 N).length = 8 := by simp [hdrM, maskZ, be2]
    have H5 := hid (afh0_mid false true (op % 16) m0 m1 m2 m3 N hN0 hN 8 hl)
    have H7 := hid (parse0_mid false true (op % 16) ho m0 m1 m2 m3 N hN0 hN 8 true hl (by simp [hk]))
    exact ⟨rt_mid_ftt_p op _ m0 m1 m2 m3 h0 h1 h2 h3 N hN0 hN w f5 f6 _ H5 H7, rt_mid_ftt_n op _ m0 m1 m2 m3 h0 h1 h2 h3 N hN0 hN w f5 f6 _ H5 H7⟩
  · have hl : (hdrM true (op % 16 : Nat) false m0 m1 m2 m3 N).length = 4 := by simp [hdrM, maskZ, be2]
    have H5 := hid (afh0_mid true false (op % 16) m0 m1 m2 m3 N hN0 hN 4 hl)
    have H7 := hid (parse0_mid true false (op % 16) ho m0 m1 m2 m3 N hN0 hN 4 true hl (by simp [hk]))
    exact ⟨rt_mid_tft_p op _ m0 m1 m2 m3 h0 h1 h2 h3 N hN0 hN w f5 f6 _ H5 H7, rt_mid_tft_n op _ m0 m1 m2 m3 h0 h1 h2 h3 N hN0 hN w f5 f6 _ H5 H7⟩
  · have hl : (hdrM true (op % 16 : Nat) true m0 m1 m2 m3 N).length = 8 := by simp [hdrM, maskZ, be2]
    have H5 := hid (afh0_mid true true (op % 16) m0 m1 m2 m3 N hN0 hN 8 hl)
    have H7 := hid (parse0_mid true true (op % 16) ho m0 m1 m2 m3 N hN0 hN 8 true hl (by simp [hk]))
    exact ⟨rt_mid_ttt_p op _ m0 m1 m2 m3 h0 h1 h2 h3 N hN0 hN w f5 f6 _ H5 H7, rt_mid_ttt_n op _ m0 m1 m2 m3 h0 h1 h2 h3 N hN0 hN w f5 f6 _ H5 H7⟩

theorem afh0_large (fin masked : Bool) (o : Nat) (m0 m1 m2 m3 : Int) (N : Nat) (hN0 : 65535 < N) (hN : N ≤ 9223372036854775807) (n : Nat) (hn : (hdrL fin o masked m0 m1 m2 m3 N).length = n) (W : World) :
    Calls Yba.prog 5 #[.slice none 0 0, .agg #[.bool fin, .int .u8 o, .bool masked, .int .u8 m0, .int .u8 m1, .int .u8 m2, .int .u8 m3, .int .i64 N]] W fun e w' => ∃ v', e = .returned v' ∧ w'.ownsRow (W.heap.size + 1 + 1) 5 1 v' n (cellsZ (hdrL fin o masked m0 m1 m2 m3 N)) ∧ Below W.heap.size W w' := by
  refine (afh_large 0 (.slice none 0 0) [] fin masked o m0 m1 m2 m3 N hN0 hN W (full_nil W) (by omega)).mono ?_
  rintro e w' ⟨v', rfl, h, hb⟩
  exact ⟨v', rfl, own_to h (by omega) (by simp), hb⟩
theorem parse0_large (fin masked : Bool) (o : Nat) (ho : o < 16) (m0 m1 m2 m3 : Int) (N : Nat) (hN0 : 65535 < N) (hN : N ≤ 9223372036854775807) (n : Nat) (bad : Bool) (hn : (hdrL fin o masked m0 m1 m2 m3 N).length = n) (hbad : (ctl o) = bad) (W : World) (g c : Nat) (hc : n ≤ c) (hc2 : c ≤ 9223372036854775807)
    (hcell : ∀ j, j < n → W.cell? ⟨g, 0 + j, none⟩ = some (.int .u8 ((hdrL fin o masked m0 m1 m2 m3 N).getD j 0))) :
    Calls Yba.prog 7 #[.slice (some ⟨g, 0, none⟩) n c] W fun e w' => ∃ v, e = .returned (.tuple #[.agg #[.bool fin, .int .u8 o, .bool masked, .int .u8 (mk masked m0), .int .u8 (mk masked m1), .int .u8 (mk masked m2), .int .u8 (mk masked m3), .int .i64 N], v]) ∧ Fault bad v ∧ Below W.heap.size W w' := by
  subst hn hbad
  exact parse_large fin masked o ho m0 m1 m2 m3 N hN0 hN W g c hc hc2 hcell
set_option maxRecDepth 100000 in
theorem rt_large (fin masked : Bool) (op : Nat) (hop : op < 256) (m0 m1 m2 m3 : Int) (h0 : (Lit.int .u8 m0).wf = true) (h1 : (Lit.int .u8 m1).wf = true) (h2 : (Lit.int .u8 m2).wf = true) (h3 : (Lit.int .u8 m3).wf = true) (N : Nat) (hN0 : 65535 < N) (hN : N ≤ 9223372036854775807) (w : World) :
    Calls Yba.prog 4 #[.bool fin, .int .u8 op, .bool masked, .agg #[.int .u8 m0, .int .u8 m1, .int .u8 m2, .int .u8 m3], .int .i64 N] w (fun e w' => e = .returned (.bool true) ∧ Below w.heap.size w w') ∧
    Calls Yba.prog 4 #[.bool fin, .int .u8 op, .bool masked, .agg #[.int .u8 m0, .int .u8 m1, .int .u8 m2, .int .u8 m3], .int .i64 (-(N : Int) - 1)] w (fun e w' => e = .returned (.bool true) ∧ Below w.heap.size w w') := by
  have f6 := and15 op hop
  have f5 := op8' op hop
  have ho : op % 16 < 16 := by omega
  cases hk : ctl (op % 16) <;> rw [hk] at f5 <;> cases fin <;> cases masked
  · have hl : (hdrL false (op % 16 : Nat) false m0 m1 m2 m3 N).length = 10 := by simp [hdrL, maskZ, be8]
    have H5 := hid (afh0_large false false (op % 16) m0 m1 m2 m3 N hN0 hN 10 hl)
    have H7 := hid (parse0_large false false (op % 16) ho m0 m1 m2 m3 N hN0 hN 10 false hl (by simp [hk]))
    exact ⟨rt_large_fff_p op _ m0 m1 m2 m3 h0 h1 h2 h3 N hN0 hN w f5 f6 _ H5 H7, rt_large_fff_n op _ m0 m1 m2 m3 h0 h1 h2 h3 N hN0 hN w f5 f6 _ H5 H7⟩
  · have hl : (hdrL false (op % 16 : Nat) true m0 m1 m2 m3 N).length = 14 := by simp [hdrL, maskZ, be8]
    have H5 := hid (afh0_large false true (op % 16) m0 m1 m2 m3 N hN0 hN 14 hl)
    have H7 := hid (parse0_large false true (op % 16) ho m0 m1 m2 m3 N hN0 hN 14 false hl (by simp [hk]))
    exact ⟨rt_large_ftf_p op _ m0 m1 m2 m3 h0 h1 h2 h3 N hN0 hN w f5 f6 _ H5 H7, rt_large_ftf_n op _ m0 m1 m2 m3 h0 h1 h2 h3 N hN0 hN w f5 f6 _ H5 H7⟩
  · have hl : (hdrL true (op % 16 : Nat) false m0 m1 m2 m3 N).length = 10 := by simp [hdrL, maskZ, be8]
    have H5 := hid (afh0_large true false (op % 16) m0 m1 m2 m3 N hN0 hN 10 hl)
    have H7 := hid (parse0_large true false (op % 16) ho m0 m1 m2 m3 N hN0 hN 10 false hl (by simp [hk]))
    exact ⟨rt_large_tff_p op _ m0 m1 m2 m3 h0 h1 h2 h3 N hN0 hN w f5 f6 _ H5 H7, rt_large_tff_n op _ m0 m1 m2 m3 h0 h1 h2 h3 N hN0 hN w f5 f6 _ H5 H7⟩
  · have hl : (hdrL true (op % 16 : Nat) true m0 m1 m2 m3 N).length = 14 := by simp [hdrL, maskZ, be8]
    have H5 := hid (afh0_large true true (op % 16) m0 m1 m2 m3 N hN0 hN 14 hl)
    have H7 := hid (parse0_large true true (op % 16) ho m0 m1 m2 m3 N hN0 hN 14 false hl (by simp [hk]))
    exact ⟨rt_large_ttf_p op _ m0 m1 m2 m3 h0 h1 h2 h3 N hN0 hN w f5 f6 _ H5 H7, rt_large_ttf_n op _ m0 m1 m2 m3 h0 h1 h2 h3 N hN0 hN w f5 f6 _ H5 H7⟩
  · have hl : (hdrL false (op % 16 : Nat) false m0 m1 m2 m3 N).length = 10 := by simp [hdrL, maskZ, be8]
    have H5 := hid (afh0_large false false (op % 16) m0 m1 m2 m3 N hN0 hN 10 hl)
    have H7 := hid (parse0_large false false (op % 16) ho m0 m1 m2 m3 N hN0 hN 10 true hl (by simp [hk]))
    exact ⟨rt_large_fft_p op _ m0 m1 m2 m3 h0 h1 h2 h3 N hN0 hN w f5 f6 _ H5 H7, rt_large_fft_n op _ m0 m1 m2 m3 h0 h1 h2 h3 N hN0 hN w f5 f6 _ H5 H7⟩
  · have hl : (hdrL false (op % 16 : Nat) true m0 m1 m2 m3 N).length = 14 := by simp [hdrL, maskZ, be8]
    have H5 := hid (afh0_large false true (op % 16) m0 m1 m2 m3 N hN0 hN 14 hl)
    have H7 := hid (parse0_large false true (op % 16) ho m0 m1 m2 m3 N hN0 hN 14 true hl (by simp [hk]))
    exact ⟨rt_large_ftt_p op _ m0 m1 m2 m3 h0 h1 h2 h3 N hN0 hN w f5 f6 _ H5 H7, rt_large_ftt_n op _ m0 m1 m2 m3 h0 h1 h2 h3 N hN0 hN w f5 f6 _ H5 H7⟩
  · have hl : (hdrL true (op % 16 : Nat) false m0 m1 m2 m3 N).length = 10 := by simp [hdrL, maskZ, be8]
    have H5 := hid (afh0_large true false (op % 16) m0 m1 m2 m3 N hN0 hN 10 hl)
    have H7 := hid (parse0_large true false (op % 16) ho m0 m1 m2 m3 N hN0 hN 10 true hl (by simp [hk]))
    exact ⟨rt_large_tft_p op _ m0 m1 m2 m3 h0 h1 h2 h3 N hN0 hN w f5 f6 _ H5 H7, rt_large_tft_n op _ m0 m1 m2 m3 h0 h1 h2 h3 N hN0 hN w f5 f6 _ H5 H7⟩
  · have hl : (hdrL true (op % 16 : Nat) true m0 m1 m2 m3 N).length = 14 := by simp [hdrL, maskZ, be8]
    have H5 := hid (afh0_large true true (op % 16) m0 m1 m2 m3 N hN0 hN 14 hl)
    have H7 := hid (parse0_large true true (op % 16) ho m0 m1 m2 m3 N hN0 hN 14 true hl (by simp [hk]))
    exact ⟨rt_large_ttt_p op _ m0 m1 m2 m3 h0 h1 h2 h3 N hN0 hN w f5 f6 _ H5 H7, rt_large_ttt_n op _ m0 m1 m2 m3 h0 h1 h2 h3 N hN0 hN w f5 f6 _ H5 H7⟩

theorem rt_any (fin masked : Bool) (op : Nat) (hop : op < 256) (m0 m1 m2 m3 : Int) (h0 : (Lit.int .u8 m0).wf = true) (h1 : (Lit.int .u8 m1).wf = true) (h2 : (Lit.int .u8 m2).wf = true) (h3 : (Lit.int .u8 m3).wf = true) (z : Int) (z1 : -9223372036854775808 ≤ z) (z2 : z ≤ 9223372036854775807) (w : World) :
    Calls Yba.prog 4 #[.bool fin, .int .u8 op, .bool masked, .agg #[.int .u8 m0, .int .u8 m1, .int .u8 m2, .int .u8 m3], .int .i64 z] w (fun e w' => e = .returned (.bool true) ∧ Below w.heap.size w w') := by
  have key : ∀ N : Nat, (N : Int) ≤ 9223372036854775807 → 
    Calls Yba.prog 4 #[.bool fin, .int .u8 op, .bool masked, .agg #[.int .u8 m0, .int .u8 m1, .int .u8 m2, .int .u8 m3], .int .i64 N] w (fun e w' => e = .returned (.bool true) ∧ Below w.heap.size w w') ∧
    Calls Yba.prog 4 #[.bool fin, .int .u8 op, .bool masked, .agg #[.int .u8 m0, .int .u8 m1, .int .u8 m2, .int .u8 m3], .int .i64 (-(N : Int) - 1)] w (fun e w' => e = .returned (.bool true) ∧ Below w.heap.size w w') := by
    intro N hN
    by_cases a : N ≤ 125
    · exact rt_small fin masked op hop m0 m1 m2 m3 h0 h1 h2 h3 N a w
    · by_cases b : N ≤ 65535
      · exact rt_mid fin masked op hop m0 m1 m2 m3 h0 h1 h2 h3 N (by omega) b w
      · exact rt_large fin masked op hop m0 m1 m2 m3 h0 h1 h2 h3 N (by omega) (by omega) w
  by_cases hz : 0 ≤ z
  · obtain ⟨N, rfl⟩ := Int.eq_ofNat_of_zero_le hz
    exact (key N z2).1
  · have e : z = -(((-(z + 1)).toNat : Nat) : Int) - 1 := by omega
    rw [e]
    exact (key _ (by omega)).2

end Go.Proofs.Ybulkbuhs

