/- LawS3533ALookup: no entry. -/
import Derived.Test.YbulkbudkLk5
import Derived.Deep.CutBlock
namespace Go.Proofs.Ybulkbudk
open Go.RowKit Go.Maps
set_option maxRecDepth 100000 in
set_option maxHeartbeats 4000000 in
theorem lk_none (x : Option Addr) (cap : Nat) (sel : Nat) (file : ByteArray) (line col : Int) (w : World) (hf : file.size ≤ maxLen) (hli : (Lit.int .i64 line).wf = true) (hco : (Lit.int .i64 col).wf = true) :
    Calls Yba.prog 3 #[.slice x 0 cap, .int .u8 sel, .string file, .int .i64 line, .int .i64 col] w fun e w' => e = .returned (.bool true) ∧ Below w.heap.size w w' := by
  have HF := hid' (And.intro hf (And.intro hli hco))
  clear hf hli hco
  have hmm := @run_makeMap Yba.prog
  go_enter Yba.func3, Yba.ntmps3
  go_upto_block 0 with fail
  clear hmm
  obtain ⟨bv, hbv⟩ : ∃ bv, bv = w.heap.size + 1 := ⟨_, rfl⟩
  obtain ⟨bl, hbl⟩ : ∃ bl, bl = w.heap.size + 1 + 1 + 1 + 1 := ⟨_, rfl⟩
  rw [← hbl, ← hbv]
  have HBV := hid' hbv
  have HBL := hid' hbl
  clear hbv hbl
  go_cut [] from 30 to 62 (fun wc => Head w wc w.heap.size bv bl (w.heap.size + 5) [] 0)
  case first =>
    go_wp2_with fail
    go_loopg [12] 0 (fun _ vi wr => vi = .int .i64 0 ∧ Head w wr w.heap.size bv bl (w.heap.size + 5) [] 0)
    case atStart => exact ⟨rfl, Head.start w [] bv bl HBV.out HBL.out⟩
    case round =>
      obtain ⟨rfl, hhead⟩ := hrel
      have HH := hid' hhead
      clear hhead
      go_wp2_with fail
      go_meet
      exact HH.out
  case rest =>
    have HH := hid' hcut
    clear hcut
    obtain ⟨w1, rfl⟩ : ∃ w1, w1 = wc := ⟨_, rfl⟩
    go_upto_block 2 with fail
    have hA : Asked (w1.alloc (.cells #[.string file, .int .i64 line, .int .i64 col] 34)) w1.heap.size file line col := ⟨by simp [go_sem], by simp [go_sem], by simp [go_sem], HF.out.1, HF.out.2.1, HF.out.2.2⟩
    have HA := hid' hA
    have HHA := hid' (HH.out.below ((Below.refl w1.heap.size w1).alloc (Nat.le_refl _) (.cells #[.string file, .int .i64 line, .int .i64 col] 34)))
    clear hA HH HF
    generalize w1.heap.size = bq at HA ⊢
    generalize w1.alloc (.cells #[.string file, .int .i64 line, .int .i64 col] 34) = wd at HA HHA ⊢
    clear w1
    go_cut [17] from 91 to 122 (fun s17 we => s17 = .slice none 0 0 ∧ Head w we w.heap.size bv bl (w.heap.size + 5) [] 0 ∧ Asked we bq file line col)
    case first =>
      go_wp2_with fail
      go_loopg [17, 18] 0 (fun _ s17 vi wr => s17 = .slice none 0 0 ∧ vi = .int .i64 (-1) ∧ wr = wd)
      case atStart => exact ⟨rfl, rfl, rfl⟩
      case round =>
        obtain ⟨rfl, rfl, rfl⟩ := hrel
        go_wp2_with fail
        go_meet
        exact ⟨rfl, HHA.out, HA.out⟩
    case rest =>
      obtain ⟨we, rfl⟩ : ∃ we, we = wc := ⟨_, rfl⟩
      obtain ⟨rfl, hhead, hask⟩ := hcut
      obtain ⟨Ds, Dv, hboth⟩ := hhead.both
      obtain ⟨v, hv, hst⟩ := hboth.holds (kOf file line col)
      obtain rfl : v = .slice none 0 0 := by
        rcases hst with ⟨rfl, _⟩ | ⟨i, hi, _⟩
        · rfl
        · exact absurd hi (by simp)
      have hal := alike_nil we
      have hset := setsIn_at bl w.heap.size 0 Ds file line col (kOf file line col) _ we hboth.sets hhead.l2 (keyOf_mk _ _ _ hask.file hask.line hask.col) hv
      have HSET := hid' hset
      have HAL := hid' hal
      have HV := hid' hv
      have HBO := hid' hboth
      have HHE := hid' hhead
      have HAS := hid' hask
      obtain ⟨q0, q1, q2⟩ := And.intro hask.q0 (And.intro hask.q1 hask.q2)
      clear hset hal hv hboth hhead hask hst HA HHA
      go_wp2_with (go_at_call 8; refine HSET.out.mono ?_)
      rintro e w' ⟨rfl, hb⟩
      have HB := hid' hb
      have HEQ := hid' (HAL.out.eq w' hb)
      have hask' := HAS.out.below hb
      have hhead' := HHE.out.below hb
      have hboth' := HBO.out.below hb
      clear hb
      have HAS' := hid' hask'
      have HHE' := hid' hhead'
      have HBO' := hid' hboth'
      clear hask' hhead' hboth' q0 q1 q2 HAS HHE HBO
      go_wp2_with (go_at_call 9; refine HEQ.out.mono ?_)
      rintro e w2' ⟨rfl, q, rfl⟩
      have hbd : Below w'.heap.size w' (w'.drewN q) := ⟨rfl, rfl, rfl, Nat.le_refl _, fun _ _ => rfl⟩
      have hask := HAS'.out.below hbd
      have hhead := HHE'.out.below hbd
      have hboth := HBO'.out.below hbd
      have heq := HAL.out.eq (w'.drewN q).drew (HB.out.trans (hbd.drew.mono HB.out.size))
      clear hbd HAS' HHE' HBO' HEQ HSET
      generalize w'.drewN q = w2 at hask hhead hboth heq ⊢
      have hlk : (Instr.lookup 24 (.map (some w.heap.size)) (.agg #[.string file, .int .i64 line, .int .i64 col]) false).run Yba.prog w2.drew = .ok (.slice none 0 0) w2.drew := look24 hboth.sets.drew (keyOf_mk _ _ _ hask.file hask.line hask.col) HV.out
      have HEQ := hid' heq
      have HBO := hid' hboth
      have HHE := hid' hhead
      obtain ⟨q0, q1, q2⟩ := And.intro hask.q0 (And.intro hask.q1 hask.q2)
      have l2 := hhead.l2
      have l1 := hhead.l1
      clear heq hboth hhead hask
      go_upto_region 27 with fail
      go_cut [143] from 135 to 142 (fun s w3 => s = .bool false ∧ Head w w3 w.heap.size bv bl (w.heap.size + 5) [] 0 ∧ Both w3 (w.heap.size + 5) w.heap.size bv [] 0 Ds Dv)
      case first =>
        go_region_with (go_at_call 9; refine HEQ.out.mono ?_; rintro e w3 ⟨rfl, q, rfl⟩)
        all_goals (
          go_wp2_with fail
          go_meet
          exact ⟨rfl, HHE.out.below ⟨rfl, rfl, rfl, Nat.le_refl _, fun _ _ => rfl⟩, HBO.out.below ⟨rfl, rfl, rfl, Nat.le_refl _, fun _ _ => rfl⟩⟩)
      case rest =>
        obtain ⟨rfl, hhead, hboth⟩ := hcut
        obtain ⟨w3, rfl⟩ : ∃ w3, w3 = wc := ⟨_, rfl⟩
        clear HHE HBO HEQ q0 q1 q2 l1 l2 hlk
        have hln1 : (Builtin.len_ #[24] 3 #[.map (some bv)]).run Yba.prog w3.drew = .ok (.int .i64 (Maps.size Ds)) w3.drew := by
          rw [hboth.size]
          exact hboth.vars.drew.len Yba.underlying24 3
        have hln2 : (Builtin.len_ #[24] 3 #[.map (some w.heap.size)]).run Yba.prog w3.drew = .ok (.int .i64 (Maps.size Ds)) w3.drew := hboth.sets.drew.len Yba.underlying24 3
        have HHE := hid' hhead
        have l2 := hhead.l2
        have l1 := hhead.l1
        clear hhead hboth
        go_wp2_with fail
        go_region
        go_wp2
        go_ret
        exact ⟨rfl, HHE.out.bel.drew⟩

set_option maxRecDepth 100000 in
/-- More than 1024 entries. -/
theorem lk_many (x : Option Addr) (len cap : Nat) (sel : Nat) (file : ByteArray) (line col : Int) (w : World) (h : 1024 < len) :
    Calls Yba.prog 3 #[.slice x len cap, .int .u8 sel, .string file, .int .i64 line, .int .i64 col] w fun e w' => e = .returned (.bool true) ∧ Below w.heap.size w w' := by
  go_enter Yba.func3, Yba.ntmps3
  go_wp2
  go_ret
  exact ⟨rfl, Below.refl _ _⟩
end Go.Proofs.Ybulkbudk
