/- The walk of LawS3541BExact: one of three ranges of the length. -/
import Derived.Test.YbulkbuhsExact0
namespace Go.Proofs.Ybulkbuhs
open Go.RowKit
set_option linter.unusedSimpArgs false
set_option linter.unusedVariables false

set_option maxHeartbeats 8000000 in
set_option maxRecDepth 100000 in
theorem exact_mid (a : Option Addr) (n cap : Nat) (zs : List Int) (fin masked : Bool) (op m0 m1 m2 m3 : Int) (len : Nat) (hlen : 125 < len) (hl2 : len ≤ 65535) (w : World) (hp : Pre w a n cap zs) (hn : n ≤ 1024) :
    Calls Yba.prog 3 #[.slice a n cap, .bool fin, .int .u8 op, .bool masked, .agg #[.int .u8 m0, .int .u8 m1, .int .u8 m2, .int .u8 m3], .int .i64 len] w fun e w' => e = .returned (.bool true) ∧ Below w.heap.size w w' := by
  have HP := hid hp
  clear hp
  have HC := hid (fun v W h => afh_mid n v (cellsZ zs) fin masked op m0 m1 m2 m3 len hlen hl2 W h (by omega))
  have hlo : 2 ≤ (hdrM fin op masked m0 m1 m2 m3 len).length := by simp only [hdrM, List.length_cons]; omega
  have hhi : (hdrM fin op masked m0 m1 m2 m3 len).length ≤ 14 := by cases masked <;> simp [hdrM, maskZ, beZs, Lib.beBytes, Lib.leBytes_length]
  generalize hH : hdrM fin op masked m0 m1 m2 m3 len = H at *
  have HH := hid hH
  clear hH
  cases fin <;> cases masked
  all_goals
    go_enter Yba.func3, Yba.ntmps3
    go_wp2_with (at_make; refine make22 rfl _ _ rfl .i64 .i64 n rfl rfl (by omega) ?_)
    intro w1 hg1 hs1 hb1
    have HG1 := hid hg1
    have HS1 := hid hs1
    have HB1 : Hid (Below w.heap.size w w1) := ((Below.refl w.heap.size w).alloc (Nat.le_refl _) _).trans (hb1.mono (by omega))
    have e0 := cell_below hb1 (p := ⟨w.heap.size, 0, none⟩) (u := .int .u8 m0) (by simp) (by simp)
    have e1 := cell_below hb1 (p := ⟨w.heap.size, 1, none⟩) (u := .int .u8 m1) (by simp) (by simp)
    have e2 := cell_below hb1 (p := ⟨w.heap.size, 2, none⟩) (u := .int .u8 m2) (by simp) (by simp)
    have e3 := cell_below hb1 (p := ⟨w.heap.size, 3, none⟩) (u := .int .u8 m3) (by simp) (by simp)
    have HPW := hid (HP.out.below HB1.out)
    clear hg1 hs1 hb1
    go_wp2_with (refine copy22 rfl _ _ rfl (w.heap.size + 1) n cap a _ rfl rfl HG1.out (size_madeCells _ _) (cellsZ zs) (by rw [cellsZ_length]; exact HPW.out.len) (fun h => (HPW.out.none h).1) HPW.out.cell (cellsZ_one _) ?_)
    intro w2 hg2 hb2
    have hs2 : w.heap.size + 1 + 1 ≤ w2.heap.size := by have := hb2.size; rw [HS1.out] at this; exact this
    have HG2 := hid hg2
    have HB2 : Hid (Below w.heap.size w w2) := HB1.out.trans (hb2.mono (by omega))
    have f0 := cell_below hb2 (by simp) e0
    have f1 := cell_below hb2 (by simp) e1
    have f2 := cell_below hb2 (by simp) e2
    have f3 := cell_below hb2 (by simp) e3
    clear hg2 hb2 e0 e1 e2 e3 HG1 HS1 HPW HB1
    go_wp2_with fail
    have hfull : ∀ X, Full (w2.alloc X) (.slice (some ⟨w.heap.size + 1, 0, none⟩) n n) n (cellsZ zs) := by
      intro X
      have h := full_block HG2.out
      rw [HP.out.len] at h
      exact h.alloc _
    refine (HC.out _ _ (hfull _)).mono ?_
    clear hfull
    rintro e w3 ⟨v3, rfl, hown3, hb3⟩
    have hs3 : w2.heap.size + 1 ≤ w3.heap.size := by have := hb3.size; simpa using this
    rw [← cellsZ_app] at hown3
    obtain ⟨g3, c3, rfl, _, _, hg3, hgl3, hlen3, hcell3⟩ := own_cells hown3 (by omega)
    have hb23 : Below w2.heap.size w2 w3 := ((Below.refl _ w2).alloc (Nat.le_refl _) _).trans (hb3.mono (by simp))
    have HB3 : Hid (Below w.heap.size w w3) := HB2.out.trans (hb23.mono (by omega))
    have HG3 : Hid (w3.heap[w.heap.size + 1]? = some (.cells (cellsZ zs).toArray 5 (0, 0))) := (hb23.block _ (by omega)).trans HG2.out
    have e0 := cell_below hb23 (by simp; omega) f0
    have e1 := cell_below hb23 (by simp; omega) f1
    have e2 := cell_below hb23 (by simp; omega) f2
    have e3 := cell_below hb23 (by simp; omega) f3
    have HC3 := hid hcell3
    have HL3 := hid hlen3
    clear hown3 hb3 hb23 f0 f1 f2 f3 HG2 HB2 hcell3 hlen3 hg3
    generalize hN3 : n + H.length = N3 at *
    have HN3 := hid hN3
    clear hN3
    go_wp2_with (at_make; refine make22_own rfl _ _ rfl .i64 .i64 _ (n + 14) rfl rfl (by omega) (by omega) ?_)
    intro w4 hown4 hb4
    have HO4 := hid hown4
    have HB4 : Hid (Below w3.heap.size w3 w4) := hb4
    have hs4 := hb4.size
    have HPW := hid (HP.out.below (HB3.out.trans (hb4.mono (by omega))))
    clear hown4 hb4
    go_wp2_with (at_builtin; refine app22_pre rfl _ _ rfl w3.heap.size _ _ _ rfl HO4.out a n cap zs rfl HPW.out (by omega) (by omega) ?_)
    intro v5 w5 hown5 hb5
    have HO5 := hid hown5
    have HB5 : Hid (Below w3.heap.size w3 w5) := HB4.out.trans hb5
    have hs5 := hb5.size
    clear hown5 hb5 HO4 HB4 HPW
    go_wp2_with (at_builtin; refine app22 rfl _ _ rfl w3.heap.size _ _ _ rfl (HO5.out.alloc _) ⟨w5.heap.size, 0, none⟩ 1 1 [_] rfl rfl (cell_new1 _ _ _ _ rfl) (ints_oneCell _ [_]) (by omega) (by simp; omega) ?_)
    intro v6 w6 hown6 hb6
    have HO6 := hid hown6
    have hs6 : w5.heap.size + 1 ≤ w6.heap.size := by have := hb6.size; simpa using this
    have HB6 : Hid (Below w3.heap.size w3 w6) := (HB5.out.alloc (by omega) _).trans hb6
    clear hown6 hb6 HO5 HB5
    go_wp2_with (at_builtin; refine app22 rfl _ _ rfl w3.heap.size _ _ _ rfl (HO6.out.alloc _) ⟨w6.heap.size, 0, none⟩ 3 3 [_, _, _] rfl rfl (cell_new3 _ _ _ _ _) (ints_oneCell _ [_, _, _]) (by omega) (by simp; omega) ?_)
    intro v7 w7 hown7 hb7
    have HO7 := hid hown7
    have hs7 : w6.heap.size + 1 ≤ w7.heap.size := by have := hb7.size; simpa using this
    have HB7 : Hid (Below w3.heap.size w3 w7) := (HB6.out.alloc (by omega) _).trans hb7
    clear hown7 hb7 HO6 HB6
    have d0 := cell_below HB7.out (by simp; omega) e0
    have d1 := cell_below HB7.out (by simp; omega) e1
    have d2 := cell_below HB7.out (by simp; omega) e2
    have d3 := cell_below HB7.out (by simp; omega) e3
    clear e0 e1 e2 e3
    first
    | (go_wp2_with (at_builtin; refine app22 rfl _ _ rfl w3.heap.size _ _ _ rfl (HO7.out.alloc _) ⟨w7.heap.size, 0, none⟩ 4 4 (cellsZ [m0, m1, m2, m3]) rfl rfl (cell_new4 _ _ _ _ _ _) (cellsZ_one _) (by omega) (by simp; omega) ?_)
       intro v8 w8 hown8 hb8
       have hs8 : w7.heap.size + 1 ≤ w8.heap.size := by have := hb8.size; simpa using this
       have HB8 : Hid (Below w3.heap.size w3 w8) := (HB7.out.alloc (by omega) _).trans hb8
       have hk : n + 1 + 3 + 4 = N3 := by rw [← HN3.out, ← HH.out]; simp [hdrM, maskZ, be2]
       obtain ⟨gE, cE, rfl, _, _, _, _, _, hcE⟩ := own_cells (own_to (L := zs ++ H) hown8 hk (by rw [← HH.out]; simp [hdrM, cellsZ, maskZ, firstZ, secZ, IntKind.wrap_u8, be2] <;> omega)) (by omega)
       have HCE := hid hcE
       clear hown8 hb8 hcE d0 d1 d2 d3 HO7 HB7
       go_wp2_with fail
       refine (eq_some g3 0 gE 0 N3 c3 cE (zs ++ H) w8 HL3.out (by omega) (fun j hj => cell_below HB8.out (by simpa using hgl3) (HC3.out j hj)) HCE.out).mono ?_
       rintro e w9 ⟨rfl, q, rfl⟩
       have HB9 := hid (HB3.out.trans (HB8.out.mono (by omega)))
       have HG9 : Hid (w8.heap[w.heap.size + 1]? = some (.cells (cellsZ zs).toArray 5 (0, 0))) := (HB8.out.block _ (by omega)).trans HG3.out
       go_wp2_with fail
       refine (eq_pre (HP.out.below (below_drewN HB9.out q)) (w.heap.size + 1) n (by omega) (fun j hj => by simpa using block_cells HG9.out j (by rw [HP.out.len]; exact hj))).mono ?_
       rintro e w10 ⟨rfl, q2, rfl⟩
       go_wp2
       go_ret
       exact ⟨rfl, below_drewN HB9.out (q + q2)⟩)
    | (have hk : n + 1 + 3 = N3 := by rw [← HN3.out, ← HH.out]; simp [hdrM, maskZ, be2]
       have hown8 := HO7.out
       obtain ⟨gE, cE, rfl, _, _, _, _, _, hcE⟩ := own_cells (own_to (L := zs ++ H) hown8 hk (by rw [← HH.out]; simp [hdrM, cellsZ, maskZ, firstZ, secZ, IntKind.wrap_u8, be2] <;> omega)) (by omega)
       have HCE := hid hcE
       clear hown8 hcE d0 d1 d2 d3 HO7
       go_wp2_with fail
       refine (eq_some g3 0 gE 0 N3 c3 cE (zs ++ H) w7 HL3.out (by omega) (fun j hj => cell_below HB7.out (by simpa using hgl3) (HC3.out j hj)) HCE.out).mono ?_
       rintro e w9 ⟨rfl, q, rfl⟩
       have HB9 := hid (HB3.out.trans (HB7.out.mono (by omega)))
       have HG9 : Hid (w7.heap[w.heap.size + 1]? = some (.cells (cellsZ zs).toArray 5 (0, 0))) := (HB7.out.block _ (by omega)).trans HG3.out
       go_wp2_with fail
       refine (eq_pre (HP.out.below (below_drewN HB9.out q)) (w.heap.size + 1) n (by omega) (fun j hj => by simpa using block_cells HG9.out j (by rw [HP.out.len]; exact hj))).mono ?_
       rintro e w10 ⟨rfl, q2, rfl⟩
       go_wp2
       go_ret
       exact ⟨rfl, below_drewN HB9.out (q + q2)⟩)

end Go.Proofs.Ybulkbuhs
