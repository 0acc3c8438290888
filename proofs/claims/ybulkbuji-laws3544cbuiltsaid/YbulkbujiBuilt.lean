/- The walk of LawS3544CBuilt. -/
import Derived.Test.YbulkbujiEth
import Derived.Deep.Draws
import Derived.WalkSmall
import Derived.Lib.LazyBuf
import Derived.Deep.Cut
import Derived.Deep.CutBlock
import Derived.Deep.QuietTactic
import Derived.BigQuiet
namespace Go.Proofs.Ybulkbuji
open Go.RowKit

/-- What is known of the slice of control words. -/
def Words (w : World) (a : Option Addr) (n : Nat) : Prop := n = 0 ∨ ∃ b o, a = some ⟨b, o, none⟩ ∧ ∀ j, j < n → ∃ t : Nat, t < 65536 ∧ w.cell? ⟨b, o + j, none⟩ = some (.int .u16 t)

def body (l : List (Nat × Nat)) : List Int := l.flatMap fun x => two x.1 ++ two x.2

theorem tail_body (f : Nat) (pay : List Int) : ∀ l : List (Nat × Nat), tail f pay l = body l ++ (two f ++ pay)
  | [] => rfl
  | x :: r => by
    show two x.1 ++ (two x.2 ++ tail f pay r) = _
    rw [tail_body f pay r]
    simp [body]

theorem body_snoc (l : List (Nat × Nat)) (x : Nat × Nat) : body (l ++ [x]) = body l ++ (two x.1 ++ two x.2) := by simp [body]
theorem body_length : ∀ l : List (Nat × Nat), (body l).length = 4 * l.length
  | [] => rfl
  | x :: r => by
    have := body_length r
    have e : body (x :: r) = two x.1 ++ two x.2 ++ body r := by simp [body]
    rw [e]; simp [two, this]; omega

theorem neq_same (b o : Nat) (W : World) : (binOp .neq 25 (.pointer (some ⟨b, o, none⟩)) (.pointer (some ⟨b, o, none⟩))).run Yba.prog W = .ok (.bool false) W := by
  have h : ∀ d : Nat, (Op.equalIn (d + 1) 25 (.pointer (some ⟨b, o, none⟩)) (.pointer (some ⟨b, o, none⟩))).run Yba.prog W = .ok true W := by
    intro d
    simp [Op.equalIn, run_underlying Yba.underlying25, Yba.sizeOf5, sameAddr]
  simp only [binOp]
  have h2 : (Op.equal 25 (.pointer (some ⟨b, o, none⟩)) (.pointer (some ⟨b, o, none⟩))).run Yba.prog W = .ok true W := h 9999
  simp [h2]

theorem put_z (z : Int) (v : Nat) (hz : z = v) (B n : Nat) (hv : v < 65536) (sv : Value) (xs : List Value) (w : World) (hown : w.ownsRow B 5 1 sv n xs) (hB : B ≤ w.heap.size) (hn : n ≤ 1000000) :
    Calls Yba.prog 7 #[sv, .int .u16 z] w fun e w' => ∃ v', e = .returned v' ∧ w'.ownsRow B 5 1 v' (n + 2) (xs ++ cellsZ (two v)) ∧ Below B w w' := by
  subst hz; exact put_own B n v hv sv xs w hown hB hn

set_option maxHeartbeats 4000000 in
set_option maxRecDepth 100000 in
theorem built_any (z0 z1 z2 z3 z4 z5 z6 z7 z8 z9 z10 z11 : Int) (a1 : Option Addr) (n cap1 : Nat) (kinds : Int) (sel : Nat) (hsel : sel < 256) (other : Nat) (hot : other < 65536) (a5 : Option Addr) (p cap5 : Nat) (pay : List Int) (w : World)
    (hw : Words w a1 n) (hp : Pre w a5 p cap5 pay) (hn : n ≤ 1024) (hpl : p ≤ 1024) :
    Calls Yba.prog 4 #[.agg #[.int .u8 z0, .int .u8 z1, .int .u8 z2, .int .u8 z3, .int .u8 z4, .int .u8 z5, .int .u8 z6, .int .u8 z7, .int .u8 z8, .int .u8 z9, .int .u8 z10, .int .u8 z11], .slice a1 n cap1, .int .u64 kinds, .int .u8 sel, .int .u16 other, .slice a5 p cap5] w
      fun e w' => e = .returned (.bool true) ∧ Below w.heap.size w w' := by
  have HW := hid hw
  have HP := hid hp
  clear hw hp
  go_enter Yba.func4, Yba.ntmps4
  go_upto_block 0 with fail
  go_cut [4, 13] from 19 (fun _ s13 wc => ∃ F : Nat, s13 = .int .u16 F ∧ F < 65536 ∧ ¬ isTag F ∧ wc = w.alloc (.cells #[.int .u8 z0, .int .u8 z1, .int .u8 z2, .int .u8 z3, .int .u8 z4, .int .u8 z5, .int .u8 z6, .int .u8 z7, .int .u8 z8, .int .u8 z9, .int .u8 z10, .int .u8 z11] 27))
  case first =>
    clear HW HP
    go_wp2
    all_goals
      go_meet
      case rel =>
        first
        | exact ⟨2048, rfl, by omega, (by unfold isTag; omega), rfl⟩
        | exact ⟨34525, rfl, by omega, (by unfold isTag; omega), rfl⟩
        | exact ⟨2054, rfl, by omega, (by unfold isTag; omega), rfl⟩
        | (refine ⟨other, rfl, hot, ?_, rfl⟩
           rename_i hx
           simp at hx
           unfold isTag
           omega)
  case rest =>
    obtain ⟨F, rfl, hF, hFt, rfl⟩ := hcut
    have HFT := hid hFt
    clear hFt
    go_wp2_with (at_make; refine make22_own rfl _ _ rfl .i64 .i64 _ (14 + 4 * n + p) rfl rfl (by omega) (by omega) ?_)
    intro w1 hown1 hb1
    have hs1 : w.heap.size + 1 ≤ w1.heap.size := by have := hb1.size; simpa using this
    have HO1 := hid hown1
    have hcellA : ∀ j u, (cellsZ [z0, z1, z2, z3, z4, z5, z6, z7, z8, z9, z10, z11])[j]? = some u → w1.cell? ((⟨w.heap.size, 0, none⟩ : Addr).add j) = some u := by
      intro j u hu
      have hj : j < 12 := by
        rcases Nat.lt_or_ge j 12 with h | h
        · exact h
        · rw [List.getElem?_eq_none (by simpa [cellsZ] using h)] at hu; cases hu
      have hadd : (⟨w.heap.size, 0, none⟩ : Addr).add j = ⟨w.heap.size, j, none⟩ := by unfold Addr.add; split <;> simp_all
      rw [hadd]
      refine cell_below hb1 (by simp) ?_
      have h12 : j = 0 ∨ j = 1 ∨ j = 2 ∨ j = 3 ∨ j = 4 ∨ j = 5 ∨ j = 6 ∨ j = 7 ∨ j = 8 ∨ j = 9 ∨ j = 10 ∨ j = 11 := by omega
      rcases h12 with rfl | rfl | rfl | rfl | rfl | rfl | rfl | rfl | rfl | rfl | rfl | rfl <;> (simp [cellsZ] at hu; subst hu; simp)
    have HCA := hid hcellA
    have HB1 : Hid (Below w.heap.size w w1) := ((Below.refl _ w).alloc (Nat.le_refl _) _).trans (hb1.mono (by omega))
    clear hown1 hb1 hcellA
    go_wp2_with (at_builtin; refine app22 rfl _ _ rfl (w.heap.size + 1) _ _ _ rfl HO1.out ⟨w.heap.size, 0, none⟩ 12 12 (cellsZ [z0, z1, z2, z3, z4, z5, z6, z7, z8, z9, z10, z11]) rfl rfl HCA.out (cellsZ_one _) (by omega) (by omega) ?_)
    intro v2 w2 hown2 hb2
    have HO2 := hid hown2
    have hs2 := hb2.size
    have HB2 : Hid (Below w.heap.size w w2) := HB1.out.trans (hb2.mono (by omega))
    clear hown2 hb2 HO1 HB1 HCA
    generalize hA : [z0, z1, z2, z3, z4, z5, z6, z7, z8, z9, z10, z11] = A at HO2
    have hA12 : A.length = 12 := by rw [← hA]; rfl
    have HA12 := hid hA12
    clear hA hA12
    go_wp2
    go_loopw [14, 15] (fun vb vi wr => ∃ (j : Nat) (l : List (Nat × Nat)), l.length = j ∧ j ≤ n ∧ vi = .int .i64 j ∧ (∀ x ∈ l, isTag x.1 ∧ x.2 < 65536) ∧ wr.ownsRow (w.heap.size + 1) 5 1 vb (12 + 4 * j) (cellsZ (A ++ body l)) ∧ Below w.heap.size w wr ∧ w.heap.size + 1 ≤ wr.heap.size) (fun _ vi _ => n - (intOf vi).toNat)
    case atStart =>
      refine ⟨0, [], rfl, Nat.zero_le _, rfl, (fun x hx => by cases hx), ?_, HB2.out, by omega⟩
      have := HO2.out
      simpa [body] using this
    case round =>
      obtain ⟨j, l, hlj, hj, rfl, hlt, hown, hbx, hsx⟩ := hrel
      have HLJ := hid hlj
      have HLT := hid hlt
      have HOW := hid hown
      have HBX := hid hbx
      clear hlj hlt hown hbx HO2 HB2
      by_cases hjn : j < n
      · obtain ⟨b, o, rfl, t, ht, hct⟩ : ∃ b o, a1 = some ⟨b, o, none⟩ ∧ ∃ t : Nat, t < 65536 ∧ w.cell? ⟨b, o + j, none⟩ = some (.int .u16 t) := by
          rcases HW.out with h0 | ⟨b, o, h1, h2⟩
          · omega
          · exact ⟨b, o, h1, h2 j hjn⟩
        have hbl : b < w.heap.size := World.block_lt_of_cell? _ _ hct
        have hct1 := cell_below HBX.out (by exact hbl) hct
        clear hct
        go_wp2_with fail
        · refine (put_z 34984 34984 rfl (w.heap.size + 1) _ (by omega) _ _ _ HOW.out (by omega) (by omega)).mono ?_
          rintro e w3 ⟨v3, rfl, hown3, hb3⟩
          have hs3 := hb3.size
          have hct3 := cell_below (hb3.mono (show w.heap.size ≤ w.heap.size + 1 by omega)) (by exact hbl) hct1
          have HO3 := hid hown3
          have HB3 : Hid (Below w.heap.size w w3) := HBX.out.trans (hb3.mono (by omega))
          clear hown3 hb3 hct1 HOW HBX
          go_wp2_with fail
          refine (put_z _ t rfl (w.heap.size + 1) _ ht _ _ _ HO3.out (by omega) (by omega)).mono ?_
          rintro e w4 ⟨v4, rfl, hown4, hb4⟩
          have hs4 := hb4.size
          have HO4 : Hid (w4.ownsRow (w.heap.size + 1) 5 1 v4 (12 + 4 * (j + 1)) (cellsZ (A ++ body (l ++ [(34984, t)])))) := own_eq hown4 (by omega) (by rw [body_snoc]; simp [cellsZ_app])
          have HB4 : Hid (Below w.heap.size w w4) := HB3.out.trans (hb4.mono (by omega))
          clear hown4 hb4 HO3 HB3 hct3
          go_wp2
          go_roundw
          case rel =>
            refine ⟨j + 1, l ++ [(34984, t)], by simp [HLJ.out], by omega, by go_num, ?_, HO4.out, HB4.out, by omega⟩
            intro x hx
            rcases List.mem_append.1 hx with h | h
            · exact HLT.out x h
            · simp at h; subst h; exact ⟨by unfold isTag; omega, ht⟩
          case measure => simp [intOf]; omega
        · refine (put_z 33024 33024 rfl (w.heap.size + 1) _ (by omega) _ _ _ HOW.out (by omega) (by omega)).mono ?_
          rintro e w3 ⟨v3, rfl, hown3, hb3⟩
          have hs3 := hb3.size
          have hct3 := cell_below (hb3.mono (show w.heap.size ≤ w.heap.size + 1 by omega)) (by exact hbl) hct1
          have HO3 := hid hown3
          have HB3 : Hid (Below w.heap.size w w3) := HBX.out.trans (hb3.mono (by omega))
          clear hown3 hb3 hct1 HOW HBX
          go_wp2_with fail
          refine (put_z _ t rfl (w.heap.size + 1) _ ht _ _ _ HO3.out (by omega) (by omega)).mono ?_
          rintro e w4 ⟨v4, rfl, hown4, hb4⟩
          have hs4 := hb4.size
          have HO4 : Hid (w4.ownsRow (w.heap.size + 1) 5 1 v4 (12 + 4 * (j + 1)) (cellsZ (A ++ body (l ++ [(33024, t)])))) := own_eq hown4 (by omega) (by rw [body_snoc]; simp [cellsZ_app])
          have HB4 : Hid (Below w.heap.size w w4) := HB3.out.trans (hb4.mono (by omega))
          clear hown4 hb4 HO3 HB3 hct3
          go_wp2
          go_roundw
          case rel =>
            refine ⟨j + 1, l ++ [(33024, t)], by simp [HLJ.out], by omega, by go_num, ?_, HO4.out, HB4.out, by omega⟩
            intro x hx
            rcases List.mem_append.1 hx with h | h
            · exact HLT.out x h
            · simp at h; subst h; exact ⟨by unfold isTag; omega, ht⟩
          case measure => simp [intOf]; omega
      · obtain rfl : j = n := by omega
        go_wp2_with fail
        refine (put_z _ F rfl (w.heap.size + 1) _ hF _ _ _ HOW.out (by omega) (by omega)).mono ?_
        rintro e w3 ⟨v3, rfl, hown3, hb3⟩
        have hs3 := hb3.size
        have HO3 := hid hown3
        have HB3 : Hid (Below w.heap.size w w3) := HBX.out.trans (hb3.mono (by omega))
        have HPW := hid (HP.out.below HB3.out)
        clear hown3 hb3 HOW HBX
        go_wp2_with (at_builtin; refine app22_pre rfl _ _ rfl (w.heap.size + 1) _ _ _ rfl HO3.out a5 p cap5 pay rfl HPW.out (by omega) (by omega) ?_)
        intro v4 w4 hown4 hb4
        have hs4 := hb4.size
        have hplen : pay.length = p := HP.out.len
        have hal : (after F pay l).length + 14 = 12 + 4 * j + 2 + p := by
          have h1 := congrArg List.length (tail_eq F pay l)
          have h2 := congrArg List.length (tail_body F pay l)
          simp only [List.length_append, body_length, HLJ.out] at h1 h2
          have h3 : (two F).length = 2 := rfl
          have h4 : (two (headT F l)).length = 2 := rfl
          omega
        obtain ⟨M, hM⟩ : ∃ M, M = 12 + 4 * j + 2 := ⟨_, rfl⟩
        obtain ⟨N, hN⟩ : ∃ N, N = M + p := ⟨_, rfl⟩
        obtain ⟨g, C, rfl, hNC, hC, hgB, hgl, hLlen, hcells⟩ := own_cells (L := A ++ tail F pay l) (own_eq (N := N) hown4 (by omega) (by rw [tail_body]; simp [cellsZ_app])) (by omega)
        have hlie : Lie w4 g 0 (A ++ tail F pay l) := fun q hq => hcells q (by rw [← hLlen]; exact hq)
        have HLIE := hid hlie
        have HB4 : Hid (Below w.heap.size w w4) := HB3.out.trans (hb4.mono (by omega))
        have HAL := hid hal
        have HPL := hid hplen
        have HM := hid hM
        have HN := hid hN
        have hNb : N ≤ 9000 := by omega
        have hpN : p ≤ N := by omega
        clear hown4 hb4 HO3 HB3 HPW hcells hLlen hlie hal hplen hM hN
        go_wp2_with fail
        refine (eth_any F hF HFT.out pay l HLT.out A HA12.out g _ C w4 (by have := HAL.out; have := HM.out; have := HN.out; omega) hNC hC HLIE.out).mono ?_
        rintro e w5 ⟨v5, rfl, hpp, hb5⟩
        have hs5 := hb5.size
        have HB5 : Hid (Below w.heap.size w w5) := HB4.out.trans (hb5.mono (by omega))
        by_cases hip : F = 2048 ∨ F = 34525
        · obtain ⟨a', c', rfl, hpc, hc', ha'⟩ := hpp.1 hip
          have hpl2 : pay.length = p := HPL.out
          rw [hpl2] at hpc ha' ⊢
          have hnil : ∀ W : World, (binOp .eql 22 (.slice (some a') p c') (.slice none 0 0)).run Yba.prog W = .ok (.bool false) W := fun W => run_eql_slice_nil W 22 5 (some a') p c' Yba.underlying22
          have HL5 : Hid (∀ q, q < p → w5.cell? ⟨g, M + q, none⟩ = some (.int .u8 (pay.getD q 0))) := by
            intro q hq
            have hlie5 := HLIE.out.below hb5
            have e1 : A ++ tail F pay l = (A ++ body l ++ two F) ++ pay := by rw [tail_body]; simp
            have h1 := hlie5.drop (A ++ body l ++ two F) pay e1
            have e2 : 0 + (A ++ body l ++ two F).length = M := by
              simp only [List.length_append, body_length, HLJ.out, HA12.out]
              have h3 : (two F).length = 2 := rfl
              have h4 := HM.out
              omega
            rw [e2] at h1
            exact h1 q (by rw [hpl2]; exact hq)
          have HP5 := hid (HP.out.below HB5.out)
          have HA' := hid ha'
          clear hpp hb5 HB4 HLIE ha' hpl2
          rcases Nat.eq_zero_or_pos p with hp0 | hpos
          · subst hp0
            rcases hip with rfl | rfl
            all_goals
              go_wp2
              go_loop [18] (fun i => i = .int .i64 0) (fun _ => 0)
              case atStart => rfl
              case round =>
                subst hrel
                go_wp2
                go_quiet (fail)
                go_wp2
                go_ret
                exact ⟨rfl, below_drewN HB5.out _⟩
          · obtain ⟨b5, o5, rfl, hc5⟩ := HP5.out.at hpos
            have ea : (⟨g, N - p, none⟩ : Addr) = ⟨g, M, none⟩ := by have := HN.out; congr 1; omega
            have ea2 := HA'.out hpos
            rw [ea] at ea2
            subst ea2
            have HC5 := hid hc5
            clear hc5 HA' HP5 ea hnil
            have hnil : ∀ W : World, (binOp .eql 22 (.slice (some ⟨g, M, none⟩) p c') (.slice none 0 0)).run Yba.prog W = .ok (.bool false) W := fun W => run_eql_slice_nil W 22 5 (some ⟨g, M, none⟩) p c' Yba.underlying22
            rcases hip with rfl | rfl
            all_goals
              go_wp2
              go_loopg [18] p (fun gk s18 wr => ∃ k q : Nat, k ≤ p ∧ p - k ≤ gk ∧ s18 = .int .i64 k ∧ wr = w5.drewN q)
              case atStart => exact ⟨0, 0, Nat.zero_le _, by omega, rfl, rfl⟩
              case round =>
                obtain ⟨k, q, hk, hgk, rfl, rfl⟩ := hrel
                by_cases hkp : k < p
                · have g1 := HL5.out k hkp
                  have g2 := HC5.out k hkp
                  generalize pay.getD k 0 = x at g1 g2
                  go_wp2_with fail
                  go_region
                  go_wp2
                  go_roundg (p - (k + 1))
                  case measure => omega
                  case rel => exact ⟨k + 1, q + 1, by omega, by omega, by go_num, rfl⟩
                · clear hnil
                  have hp1 : (0 : Int) < (p : Int) := by omega
                  have hsub : (N : Int) - (p : Int) = (M : Int) := by have := HN.out; omega
                  have hsubw : IntKind.i64.wrap (M : Int) = (M : Int) := by rw [IntKind.wrap_i64]; have := HN.out; omega
                  have hMN : (M : Int) < (N : Int) := by have := HN.out; omega
                  have hM0 : (0 : Int) ≤ (M : Int) := by omega
                  have hnp := neq_same g M
                  go_wp2
                  go_quiet (fail)
                  go_wp2
                  go_ret
                  exact ⟨rfl, below_drewN (below_drewN HB5.out _) _⟩
        · obtain rfl := hpp.2 hip
          have t3 : ((F : Int) != 2048) = true := by simp; omega
          have t4 : ((F : Int) != 34525) = true := by simp; omega
          clear hpp hb5 HB4 HLIE
          have hnil : ∀ W : World, (binOp .eql 22 (.slice none 0 0) (.slice none 0 0)).run Yba.prog W = .ok (.bool true) W := fun W => run_eql_slice_nil W 22 5 none 0 0 Yba.underlying22
          go_wp2
          go_ret
          exact ⟨rfl, HB5.out⟩

end Go.Proofs.Ybulkbuji
