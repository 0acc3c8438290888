/- LawS3533ALookup: the law's own walk, entries at hand. -/
import Derived.Test.YbulkbudkLk5
import Derived.Deep.CutBlock
namespace Go.Proofs.Ybulkbudk
open Go.RowKit Go.Maps
set_option maxRecDepth 100000 in
set_option maxHeartbeats 4000000 in
theorem lk_some (b o len cap : Nat) (es : List Ent) (sel : Nat) (file : ByteArray) (line col : Int) (w : World) (hl1 : 1 ≤ len) (hl : len ≤ 1024) (hlen : es.length = len) (hsel : sel < 256)
    (hat : ∀ i (hi : i < es.length), EntAt w b (o + i * 4) es[i]) (hfit : ∀ i (hi : i < es.length), es[i].Fits) (hf : file.size ≤ maxLen) (hli : (Lit.int .i64 line).wf = true) (hco : (Lit.int .i64 col).wf = true) :
    Calls Yba.prog 3 #[.slice (some ⟨b, o, none⟩) len cap, .int .u8 sel, .string file, .int .i64 line, .int .i64 col] w fun e w' => e = .returned (.bool true) ∧ Below w.heap.size w w' := by
  have HAT := hid' hat
  have HFIT := hid' hfit
  have HLEN := hid' hlen
  have HF := hid' (And.intro hf (And.intro hli hco))
  clear hat hfit hlen hf hli hco
  have hmm := @run_makeMap Yba.prog
  go_enter Yba.func3, Yba.ntmps3
  go_upto_block 0 with fail
  clear hmm
  obtain ⟨bv, hbv⟩ : ∃ bv, bv = w.heap.size + 1 := ⟨_, rfl⟩
  obtain ⟨bl, hbl⟩ : ∃ bl, bl = w.heap.size + 1 + 1 + 1 + 1 := ⟨_, rfl⟩
  rw [← hbl, ← hbv]
  have HBV := hid' hbv
  have HBL := hid' hbl
  clear hbv hbl
  go_cut [] from 30 to 62 (fun wc => Head w wc w.heap.size bv bl (w.heap.size + 5) es len)
  case first =>
    go_wp2_with fail
    go_loopg [12] len (fun gk vi wr => gk ≤ len ∧ vi = .int .i64 ((len - gk : Nat) : Int) ∧ Head w wr w.heap.size bv bl (w.heap.size + 5) es (len - gk))
    case atStart =>
      refine ⟨Nat.le_refl _, by rw [Nat.sub_self]; rfl, ?_⟩
      rw [Nat.sub_self]
      exact Head.start w es bv bl HBV.out HBL.out
    case round =>
      obtain ⟨hk, hv, hhead⟩ := hrel
      obtain ⟨k, hkk⟩ : ∃ k, k = len - gk := ⟨_, rfl⟩
      rw [← hkk] at hv hhead
      subst hv
      have HKK := hid' hkk
      clear hkk
      have HH := hid' hhead
      clear hhead
      by_cases hlt : k < len
      · have hlt2 : k < es.length := by rw [HLEN.out]; exact hlt
        obtain ⟨Ds, Dv, hboth⟩ := HH.out.both
        have HBO := hid' hboth
        clear hboth
        obtain ⟨t, ht⟩ : ∃ t, t = es[k] := ⟨_, rfl⟩
        have hi := (HAT.out k hlt2).below HH.out.bel
        have hfi := HFIT.out k hlt2
        rw [← ht] at hi hfi
        obtain ⟨c0, c1, c2, c3, hrow⟩ := hi
        unfold Ent.idsV at c3
        have HT := hid' ht
        have HFI := hid' hfi
        have HROW := hid' hrow
        clear ht hfi hrow
        go_upto_region 9 with fail
        go_cut [] from 30 to 62 (fun wc => ∃ v, Mid w wr wc w.heap.size bv bl (w.heap.size + 5) (Ds.put t.kl (.held v)) Dv (k + 1) k t ∧ Clone wc (w.heap.size + 5) v t)
        case rest =>
          obtain ⟨v, hmid, hcl⟩ := hcut
          have HM := hid' hmid
          have HCL := hid' hcl
          obtain ⟨m0, m1, m2, m3, m4, m5, m6, m7⟩ := And.intro hmid.e0 (And.intro hmid.e3 (And.intro hmid.p0 (And.intro hmid.p1 (And.intro hmid.p2 (And.intro hmid.l1 (And.intro hmid.l2 trivial))))))
          clear hmid hcl m7 c0 c1 c2 c3
          have hm1 := HM.out.below (W' := (wc.alloc (.cells #[.string { data := #[122, 122, 45, 118, 97, 114] }, .string t.file] 9)).drew) ((Below.refl _ _).alloc (Nat.le_refl _) _).drew
          obtain ⟨w4, hrun, hm4, hk4, hs4⟩ := hm1.var HFI.out (by omega) (.slice (some ⟨wc.heap.size, 0, none⟩) 2 2)
          have HM4 := hid' hm4
          have HK4 := hid' hk4
          have hcl4 : Clone w4 (w.heap.size + 5) v t := (HCL.out.kept (fun g h1 h2 => Below.heap_alloc wc (.cells #[.string { data := #[122, 122, 45, 118, 97, 114] }, .string t.file] 9) g h2) : Clone (wc.alloc (.cells #[.string { data := #[122, 122, 45, 118, 97, 114] }, .string t.file] 9)) (w.heap.size + 5) v t).kept hk4
          have HCL4 := hid' hcl4
          obtain ⟨n2, n3, n4, n5, n6, n7⟩ := And.intro hm1.e0 (And.intro hm1.p0 (And.intro hm1.p1 (And.intro hm1.p2 (And.intro hm1.l1 hm1.l2))))
          clear hm1 hm4 hk4 hs4 hcl4
          go_wp2_with fail
          go_region
          all_goals go_wp2_with fail
          go_roundg (gk - 1)
          case measure => have := HKK.out; omega
          case rel =>
            have e : len - (gk - 1) = k + 1 := by have := HKK.out; omega
            rw [e]
            exact ⟨by omega, rfl, Mid.head HBO.out hlt2 HT.out HFI.out HM4.out HCL4.out⟩
        case first =>
          have hmid := Mid.enter (t := t) HBO.out HH.out.bel HH.out.l1 HH.out.l2 HH.out.hs
          have HM := hid' hmid
          obtain ⟨m0, m1, m2, m3, m4, m5, m6, m7⟩ := And.intro hmid.e0 (And.intro hmid.e3 (And.intro hmid.p0 (And.intro hmid.p1 (And.intro hmid.p2 (And.intro hmid.l1 (And.intro hmid.l2 trivial))))))
          clear hmid m7
          go_wp2_with fail
          go_region_with (go_at_call 7; refine (clone_any t (w.heap.size + 5) _ ?_ HFI.out ?_).mono ?_; exact Nat.le_trans HH.out.hs.2.2.2.2 (Nat.le_trans (by omega) HM.out.big); exact HROW.out.below (((Below.refl _ _).alloc (Nat.le_refl _) _).alloc (by simp) _).drew; rintro e w' ⟨v, rfl, hcl, hb⟩; have hmid' := HM.out.below hb; obtain ⟨w4, hrun, hmid4, hk4, hsz4⟩ := hmid'.set HFI.out (by omega) v; have HM4 := hid' (And.intro hmid4 (hcl.kept hk4)); obtain ⟨n0, n1, n2, n3, n4, n5, n6⟩ := And.intro hmid'.e0 (And.intro hmid'.e3 (And.intro hmid'.p0 (And.intro hmid'.p1 (And.intro hmid'.p2 (And.intro hmid'.l1 hmid'.l2))))); clear hcl hb hmid' hmid4 hk4 hsz4)
          all_goals (go_wp2_with fail; go_meet; exact ⟨_, HM4.out.1, HM4.out.2⟩)
      · have hke : k = len := by have := HKK.out; omega
        clear HKK
        subst hke
        go_wp2_with fail
        go_meet
        exact HH.out
  case rest =>
    have HH := hid' hcut
    clear hcut
    obtain ⟨w1, rfl⟩ : ∃ w1, w1 = wc := ⟨_, rfl⟩
    go_upto_if 74 with fail
    go_cut [] from 63 to 90 (fun wd => ∃ qf ql qc, Head w wd w.heap.size bv bl (w.heap.size + 5) es len ∧ Asked wd w1.heap.size qf ql qc)
    case first =>
      by_cases hz : sel % 2 = 0
      · have hj : sel / 2 % len < es.length := by rw [HLEN.out]; exact Nat.mod_lt _ (by omega)
        obtain ⟨t, ht⟩ : ∃ t, t = es[sel / 2 % len] := ⟨_, rfl⟩
        have hi := (HAT.out _ hj).below HH.out.bel
        have hfi := HFIT.out _ hj
        rw [← ht] at hi hfi
        obtain ⟨c0, c1, c2, c3, hrow⟩ := hi
        unfold Ent.idsV at c3
        have HT := hid' ht
        have HFI := hid' hfi
        have k0 := cell_al c0 (.cells #[.string file, .int .i64 line, .int .i64 col] 34)
        have k1 := cell_al c1 (.cells #[.string file, .int .i64 line, .int .i64 col] 34)
        have k2 := cell_al c2 (.cells #[.string file, .int .i64 line, .int .i64 col] 34)
        have k3 := cell_al c3 (.cells #[.string file, .int .i64 line, .int .i64 col] 34)
        have hb1 : 0 ≤ (sel : Int) / 2 % (len : Int) ∧ (sel : Int) / 2 % (len : Int) < len := ⟨Int.emod_nonneg _ (by omega), Int.emod_lt_of_pos _ (by omega)⟩
        have hz2 : ((sel : Int) % 2 == 0) = true := by simp; omega
        clear ht hfi hrow c0 c1 c2 c3 HT hj hz
        go_wp2
        go_meet
        have hB := (((Below.refl w1.heap.size w1).alloc (Nat.le_refl _) (.cells #[.string t.file, .int .i64 t.line, .int .i64 t.col] 34)).alloc (by simp) (.cells #[.string t.file, .int .i64 t.line, .int .i64 t.col, .slice (addrOf t.spot) t.ids.length t.cap] 32))
        exact ⟨t.file, t.line, t.col, HH.out.below hB, by simp [go_sem], by simp [go_sem], by simp [go_sem], HFI.out.file, HFI.out.line, HFI.out.col⟩
      · have hz2 : ((sel : Int) % 2 == 0) = false := by simp; omega
        clear hz
        go_wp2
        go_meet
        exact ⟨file, line, col, HH.out.below ((Below.refl w1.heap.size w1).alloc (Nat.le_refl _) _), by simp [go_sem], by simp [go_sem], by simp [go_sem], HF.out.1, HF.out.2.1, HF.out.2.2⟩
    case rest =>
      clear HH HF
      generalize w1.heap.size = bq at hcut ⊢
      clear w1
      obtain ⟨wd, rfl⟩ : ∃ wd, wd = wc := ⟨_, rfl⟩
      obtain ⟨qf, ql, qc, hhead, hask⟩ := hcut
      have HH := hid' hhead
      have HA := hid' hask
      clear hhead hask
      go_upto_block 2 with fail
      go_cut [17] from 91 to 122 (fun s17 we => Head w we w.heap.size bv bl (w.heap.size + 5) es len ∧ Asked we bq qf ql qc ∧ Want es (kOf qf ql qc) s17)
      case rest =>
        obtain ⟨we, rfl⟩ : ∃ we, we = wc := ⟨_, rfl⟩
        obtain ⟨hhead, hask, hwant⟩ := hcut
        obtain ⟨Ds, Dv, hboth⟩ := hhead.both
        obtain ⟨v, hv, hst⟩ := hboth.holds (kOf qf ql qc)
        have hrows : ∀ i (hi : i < es.length), RowAt we es[i] := fun i hi => ((HAT.out i hi).below hhead.bel).row
        have hst' : Stands we (w.heap.size + 5) es es.length (kOf qf ql qc) v := by rw [HLEN.out]; exact hst
        obtain ⟨a, a', n, c, c', rfl, rfl, hal⟩ := alike hst' hwant HFIT.out hrows
        have hset := setsIn_at bl w.heap.size len Ds qf ql qc (kOf qf ql qc) _ we hboth.sets hhead.l2 (keyOf_mk _ _ _ hask.file hask.line hask.col) hv
        have HSET := hid' hset
        have HAL := hid' hal
        have HV := hid' hv
        have HBO := hid' hboth
        have HHE := hid' hhead
        have HAS := hid' hask
        obtain ⟨q0, q1, q2⟩ := And.intro hask.q0 (And.intro hask.q1 hask.q2)
        clear hset hal hv hboth hhead hask hst hst' hwant hrows HH HA HAT HFIT HLEN
        go_wp2_with (go_at_call 8; refine HSET.out.mono ?_)
        rintro e w' ⟨rfl, hb⟩
        have HB := hid' hb
        have HEQ := hid' (HAL.out.eq w' hb)
        have hn := HAL.out.nil
        have hask' := HAS.out.below hb
        have hhead' := HHE.out.below hb
        have hboth' := HBO.out.below hb
        clear hb
        have HAS' := hid' hask'
        have HHE' := hid' hhead'
        have HBO' := hid' hboth'
        clear hask' hhead' hboth' q0 q1 q2 HAS HHE HBO
        go_wp2_with (go_at_call 9; refine HEQ.out.mono ?_)
        rintro e w2' ⟨rfl, q, rfl⟩
        have hbd : Below w'.heap.size w' (w'.drewN q) := ⟨rfl, rfl, rfl, Nat.le_refl _, fun _ _ => rfl⟩
        have hask := HAS'.out.below hbd
        have hhead := HHE'.out.below hbd
        have hboth := HBO'.out.below hbd
        have heq := HAL.out.eq (w'.drewN q).drew (HB.out.trans (hbd.drew.mono HB.out.size))
        clear hbd HAS' HHE' HBO' HEQ HSET
        generalize w'.drewN q = w2 at hask hhead hboth heq ⊢
        have hlk : (Instr.lookup 24 (.map (some w.heap.size)) (.agg #[.string qf, .int .i64 ql, .int .i64 qc]) false).run Yba.prog w2.drew = .ok (.slice a n c) w2.drew := look24 hboth.sets.drew (keyOf_mk _ _ _ hask.file hask.line hask.col) HV.out
        have HEQ := hid' heq
        have HBO := hid' hboth
        have HHE := hid' hhead
        obtain ⟨q0, q1, q2⟩ := And.intro hask.q0 (And.intro hask.q1 hask.q2)
        have l2 := hhead.l2
        have l1 := hhead.l1
        clear heq hboth hhead hask
        go_upto_region 27 with fail
        go_cut [143] from 135 to 142 (fun s w3 => s = .bool false ∧ Head w w3 w.heap.size bv bl (w.heap.size + 5) es len ∧ Both w3 (w.heap.size + 5) w.heap.size bv es len Ds Dv)
        case first =>
          go_region_with (go_at_call 9; refine HEQ.out.mono ?_; rintro e w3 ⟨rfl, q, rfl⟩)
          all_goals (
            go_wp2_with fail
            go_meet
            exact ⟨rfl, HHE.out.below ⟨rfl, rfl, rfl, Nat.le_refl _, fun _ _ => rfl⟩, HBO.out.below ⟨rfl, rfl, rfl, Nat.le_refl _, fun _ _ => rfl⟩⟩)
        case rest =>
          obtain ⟨rfl, hhead, hboth⟩ := hcut
          obtain ⟨w3, rfl⟩ : ∃ w3, w3 = wc := ⟨_, rfl⟩
          clear HHE HBO HEQ q0 q1 q2 l1 l2 hlk
          have hln1 : (Builtin.len_ #[24] 3 #[.map (some bv)]).run Yba.prog w3.drew = .ok (.int .i64 (Maps.size Ds)) w3.drew := by
            rw [hboth.size]
            exact hboth.vars.drew.len Yba.underlying24 3
          have hln2 : (Builtin.len_ #[24] 3 #[.map (some w.heap.size)]).run Yba.prog w3.drew = .ok (.int .i64 (Maps.size Ds)) w3.drew := hboth.sets.drew.len Yba.underlying24 3
          have HHE := hid' hhead
          have l2 := hhead.l2
          have l1 := hhead.l1
          clear hhead hboth
          go_wp2_with fail
          go_region
          go_wp2
          go_ret
          exact ⟨rfl, HHE.out.bel.drew⟩
      case first =>
        go_wp2_with fail
        go_loopg [17, 18] len (fun gk s17 vi wr => gk ≤ len ∧ s17 = .slice none 0 0 ∧ vi = .int .i64 ((gk : Int) - 1) ∧ Below wd.heap.size wd wr ∧ ∀ i (hi : i < es.length), gk ≤ i → es[i].kl ≠ kOf qf ql qc)
        case atStart =>
          exact ⟨Nat.le_refl _, rfl, rfl, Below.refl _ _, fun i hi hg => absurd hi (by rw [HLEN.out]; omega)⟩
        case round =>
          obtain ⟨hk, rfl, rfl, hbel, hno⟩ := hrel
          have HB := hid' hbel
          have HN := hid' hno
          clear hbel hno
          cases gk with
          | zero =>
            go_wp2_with fail
            go_meet
            exact ⟨HH.out.below HB.out, HA.out.below HB.out, .inl ⟨rfl, fun i hi => HN.out i hi (Nat.zero_le _)⟩⟩
          | succ j =>
            have ej : ((j + 1 : Nat) : Int) - 1 = (j : Int) := by omega
            rw [ej]
            have hlt : j < len := by omega
            have hlt2 : j < es.length := by rw [HLEN.out]; exact hlt
            obtain ⟨t, ht⟩ : ∃ t, t = es[j] := ⟨_, rfl⟩
            have HHR := hid' (HH.out.below HB.out)
            have HAR := hid' (HA.out.below HB.out)
            have hi := (HAT.out j hlt2).below HHR.out.bel
            have hfi := HFIT.out j hlt2
            rw [← ht] at hi hfi
            obtain ⟨c0, c1, c2, c3, hrow⟩ := hi
            unfold Ent.idsV at c3
            have HT := hid' ht
            have HFI := hid' hfi
            obtain ⟨g0, g1, g2⟩ := And.intro (cell_al HAR.out.q0 (.cells #[.string t.file, .int .i64 t.line, .int .i64 t.col, .slice (addrOf t.spot) t.ids.length t.cap] 32)) (And.intro (cell_al HAR.out.q1 (.cells #[.string t.file, .int .i64 t.line, .int .i64 t.col, .slice (addrOf t.spot) t.ids.length t.cap] 32)) (cell_al HAR.out.q2 (.cells #[.string t.file, .int .i64 t.line, .int .i64 t.col, .slice (addrOf t.spot) t.ids.length t.cap] 32)))
            clear ht hfi hrow ej hk
            have next : t.kl ≠ kOf qf ql qc → ∀ i (hi : i < es.length), j ≤ i → es[i].kl ≠ kOf qf ql qc := fun hne i hi hji => by
              by_cases e : i = j
              · subst e
                rw [← HT.out]
                exact hne
              · exact HN.out i hi (by omega)
            have HNE := hid' next
            clear next
            have bel1 := HB.out.alloc HB.out.size (.cells #[.string t.file, .int .i64 t.line, .int .i64 t.col, .slice (addrOf t.spot) t.ids.length t.cap] 32)
            have HBE := hid' bel1
            clear bel1
            by_cases e0 : t.file = qf
            · by_cases e1 : t.line = ql
              · by_cases e2 : t.col = qc
                · have b0 : t.file.toList = qf.toList := by rw [e0]
                  have b1 : (t.line == ql) = true := by simp [e1]
                  have b2 : (t.col == qc) = true := by simp [e2]
                  have E0 := hid' (And.intro e0 (And.intro e1 e2))
                  clear e0 e1 e2
                  go_wp2_with fail
                  go_meet
                  refine ⟨HH.out.below HBE.out, HA.out.below HBE.out, .inr ⟨j, hlt2, ?_, fun i' hi' hji => HN.out i' hi' (by omega), ?_⟩⟩
                  · rw [← HT.out]
                    simp only [Ent.kl, E0.out.1, E0.out.2.1, E0.out.2.2]
                  · rw [← HT.out]
                    rfl
                · have b0 : t.file.toList = qf.toList := by rw [e0]
                  have b1 : (t.line == ql) = true := by simp [e1]
                  have b2 : (t.col == qc) = false := by simp [e2]
                  have E0 := hid' e2
                  clear e0 e1 e2
                  go_wp2_with fail
                  go_roundg j
                  case measure => omega
                  case rel => exact ⟨by omega, rfl, rfl, HBE.out, HNE.out (fun e => E0.out (kOf_inj HFI.out.file HFI.out.line HFI.out.col HA.out.file HA.out.line HA.out.col e).2.2)⟩
              · have b0 : t.file.toList = qf.toList := by rw [e0]
                have b1 : (t.line == ql) = false := by simp [e1]
                have E0 := hid' e1
                clear e0 e1
                go_wp2_with fail
                go_roundg j
                case measure => omega
                case rel => exact ⟨by omega, rfl, rfl, HBE.out, HNE.out (fun e => E0.out (kOf_inj HFI.out.file HFI.out.line HFI.out.col HA.out.file HA.out.line HA.out.col e).2.1)⟩
            · have b0 : ¬ t.file.toList = qf.toList := fun h => e0 (by rw [ByteArray.toList_eq, ByteArray.toList_eq] at h; exact WideShapes.bytes_inj h)
              have E0 := hid' e0
              clear e0
              go_wp2_with fail
              go_roundg j
              case measure => omega
              case rel => exact ⟨by omega, rfl, rfl, HBE.out, HNE.out (fun e => E0.out (kOf_inj HFI.out.file HFI.out.line HFI.out.col HA.out.file HA.out.line HA.out.col e).1)⟩
end Go.Proofs.Ybulkbudk
