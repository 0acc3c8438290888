/- The walk of LawS3533BSequence. -/
import Derived.Test.YbulkbudkAny
namespace Go.Proofs.Ybulkbudk
open Go.RowKit

/-- One item, plainly. -/
structure Item where
  base : Nat
  ed : Bool
  fi : Bool
  head : Nat
  tail : Nat
  mid : ByteArray

def Item.fits (t : Item) : Prop := t.base < 18446744073709551616 ∧ t.head < 18446744073709551616 ∧ t.tail < 18446744073709551616 ∧ t.mid.size ≤ maxLen

def Item.bytes (t : Item) : List UInt8 := enc t.base t.ed t.fi t.head t.tail t.mid.data.toList

def encs (l : List Item) : List UInt8 := l.flatMap Item.bytes

/-- An item's six cells. -/
def ItemAt (w : World) (b o : Nat) (t : Item) : Prop :=
  w.cell? ⟨b, o, none⟩ = some (.int .u64 t.base) ∧ w.cell? ⟨b, o + 1, none⟩ = some (.bool t.ed) ∧ w.cell? ⟨b, o + 2, none⟩ = some (.bool t.fi) ∧
  w.cell? ⟨b, o + 3, none⟩ = some (.int .u64 t.head) ∧ w.cell? ⟨b, o + 4, none⟩ = some (.int .u64 t.tail) ∧ w.cell? ⟨b, o + 5, none⟩ = some (.string t.mid)

theorem ItemAt.lt {w : World} {b o : Nat} {t : Item} (h : ItemAt w b o t) : b < w.heap.size := World.block_lt_of_cell? _ _ h.1

theorem ItemAt.below {w w' : World} {b o : Nat} {t : Item} (h : ItemAt w b o t) (hb : Below w.heap.size w w') : ItemAt w' b o t := by
  have hl := h.lt
  obtain ⟨h0, h1, h2, h3, h4, h5⟩ := h
  refine ⟨?_, ?_, ?_, ?_, ?_, ?_⟩ <;> (rw [hb.cell (by exact hl)]; assumption)

theorem encs_append (a b : List Item) : encs (a ++ b) = encs a ++ encs b := by simp [encs]
theorem encs_cons (t : Item) (r : List Item) : encs (t :: r) = t.bytes ++ encs r := by simp [encs]
theorem encs_nil : encs [] = [] := rfl

theorem encs_snoc (l : List Item) (k : Nat) (hk : k < l.length) : encs (l.take (k + 1)) = encs (l.take k) ++ (l[k]).bytes := by
  rw [List.take_succ_eq_append_getElem hk, encs_append, encs_cons, encs_nil, List.append_nil]

theorem encs_split (l : List Item) (k : Nat) (hk : k < l.length) : encs l = encs (l.take k) ++ ((l[k]).bytes ++ encs (l.drop (k + 1))) := by
  rw [← encs_cons, ← encs_append, ← List.drop_eq_getElem_cons hk, List.take_append_drop]

theorem bytes_le (t : Item) (h : t.fits) (hm : t.mid.size ≤ 1024) : t.bytes.length ≤ 1064 := by
  have := enc_le t.base t.ed t.fi t.head t.tail t.mid.data.toList h.2.1 h.2.2.1 (by rw [len_toList]; omega)
  rw [len_toList] at this
  unfold Item.bytes
  omega

theorem encs_le : ∀ (l : List Item), (∀ t ∈ l, t.fits ∧ t.mid.size ≤ 1024) → (encs l).length ≤ 1064 * l.length
  | [], _ => by simp [encs]
  | t :: r, h => by
    have h1 := bytes_le t (h t (by simp)).1 (h t (by simp)).2
    have h2 := encs_le r (fun u hu => h u (by simp [hu]))
    rw [encs_cons, List.length_append, List.length_cons]
    omega

theorem Lies.below {w w' : World} {g o : Nat} {l : List UInt8} (h : Lies w g o l) (hb : Below w.heap.size w w') : Lies w' g o l :=
  h.block fun hlt => hb.block g hlt

theorem cell_alloc_old {w : World} {p : Addr} {v : Value} (h : w.cell? p = some v) (x : Obj) : (w.alloc x).cell? p = some v := by
  rw [World.cell?_of_block (w := w) (a := p) (Below.heap_alloc w x p.block (World.block_lt_of_cell? _ _ h))]
  exact h

theorem take_mem {its : List Item} {k : Nat} {t : Item} (h : t ∈ its.take k) : ∃ j, ∃ hj : j < its.length, j < k ∧ its[j] = t := by
  obtain ⟨j, hj, e⟩ := List.getElem_of_mem h
  have hj2 : j < its.length := by simp at hj; omega
  refine ⟨j, hj2, by simp at hj; omega, ?_⟩
  rw [← e, List.getElem_take]

set_option maxHeartbeats 1000000 in
theorem seq_none (a : Option Addr) (cap : Nat) (w : World) :
    Calls Yba.prog 6 #[.slice a 0 cap] w fun e w' => e = .returned (.bool true) ∧ Below w.heap.size w w' := by
  go_enter Yba.func6, Yba.ntmps6
  go_wp2
  go_loop [3] (fun i => i = .int .i64 0) (fun _ => 0)
  case atStart => rfl
  case round =>
    subst hrel
    go_wp2
    go_loop [4, 5] (fun b i => b = .slice none 0 0 ∧ i = .int .i64 0) (fun _ _ => 0)
    case atStart => exact ⟨rfl, rfl⟩
    case round =>
      obtain ⟨rfl, rfl⟩ := hrel
      go_wp2
      go_loop [7, 8] (fun o i => o = .int .i64 0 ∧ i = .int .i64 0) (fun _ _ => 0)
      case atStart => exact ⟨rfl, rfl⟩
      case round =>
        obtain ⟨rfl, rfl⟩ := hrel
        go_wp2
        go_ret
        exact ⟨rfl, Below.refl _ _⟩

set_option maxHeartbeats 1000000 in
theorem seq_some (b o len cap : Nat) (its : List Item) (w : World) (hl1 : 1 ≤ len) (hl : len ≤ 256) (hlen : its.length = len)
    (hat : ∀ i (hi : i < its.length), ItemAt w b (o + i * 6) its[i]) (hfit : ∀ t ∈ its, t.fits) :
    Calls Yba.prog 6 #[.slice (some ⟨b, o, none⟩) len cap] w fun e w' => e = .returned (.bool true) ∧ Below w.heap.size w w' := by
  have HAT := hid hat
  have HFIT := hid hfit
  have HLEN := hid hlen
  clear hat hfit hlen
  go_enter Yba.func6, Yba.ntmps6
  go_wp2
  go_loop [3] (fun i => ∃ k : Nat, k ≤ len ∧ i = .int .i64 k ∧ ∀ j (hj : j < its.length), j < k → (its[j]).mid.size ≤ 1024) (fun i => len - (intOf i).toNat)
  case atStart => exact ⟨0, Nat.zero_le _, rfl, fun j _ hj => absurd hj (Nat.not_lt_zero _)⟩
  case round =>
    obtain ⟨k, hk, rfl, hmid⟩ := hrel
    by_cases hlt : k < len
    · have hlt2 : k < its.length := by rw [HLEN.out]; exact hlt
      obtain ⟨t, ht⟩ : ∃ t, t = its[k] := ⟨_, rfl⟩
      have hi := HAT.out k hlt2
      rw [← ht] at hi
      have hf := HFIT.out t (by rw [ht]; exact List.getElem_mem _)
      obtain ⟨c0, c1, c2, c3, c4, c5⟩ := hi
      have hms : t.mid.size ≤ 9223372036854775807 := hf.2.2.2
      have HM := hid hmid
      have HT := hid ht
      clear hmid ht hf
      by_cases h1024 : t.mid.size ≤ 1024
      · go_wp2
        go_round
        case rel =>
          refine ⟨k + 1, by omega, by go_num, fun j hj hjk => ?_⟩
          by_cases e : j = k
          · subst e; rw [← HT.out]; exact h1024
          · exact HM.out j hj (by omega)
        case measure => simp [intOf]; omega
      · go_wp2
        go_ret
        exact ⟨rfl, Below.refl _ _⟩
    · have hall : ∀ t ∈ its, t.fits ∧ t.mid.size ≤ 1024 := by
        intro t htm
        refine ⟨HFIT.out t htm, ?_⟩
        obtain ⟨j, hj, rfl⟩ := List.getElem_of_mem htm
        exact hmid j hj (by have := HLEN.out; omega)
      have hbd : ∀ k, (encs (its.take k)).length ≤ 272384 := by
        intro k
        have h1 := encs_le (its.take k) (fun t ht => hall t (List.mem_of_mem_take ht))
        have h2 : (its.take k).length ≤ 256 := by simp; have := HLEN.out; omega
        omega
      have HALL := hid hall
      have HBD := hid hbd
      clear hmid hall hbd
      go_wp2
      go_loopw [4, 5] (fun vb vi wr => ∃ k : Nat, k ≤ len ∧ vi = .int .i64 k ∧ wr.ownsRow w.heap.size 5 1 vb (encs (its.take k)).length (Lib.byteCells (encs (its.take k))) ∧ Below w.heap.size w wr) (fun _ vi _ => len - (intOf vi).toNat)
      case atStart => exact ⟨0, Nat.zero_le _, rfl, World.ownsRow_nil _ _ _ _, Below.refl _ _⟩
      case round =>
        obtain ⟨k, hk, rfl, hown, hbel⟩ := hrel
        have HOWN := hid hown
        clear hown
        have hs0 := hbel.size
        by_cases hlt : k < len
        · have hlt2 : k < its.length := by rw [HLEN.out]; exact hlt
          obtain ⟨t, ht⟩ : ∃ t, t = its[k] := ⟨_, rfl⟩
          have hi := (HAT.out k hlt2).below hbel
          rw [← ht] at hi
          have hf := HALL.out t (by rw [ht]; exact List.getElem_mem _)
          obtain ⟨c0, c1, c2, c3, c4, c5⟩ := hi
          have HC := hid (fun sv W h1 h2 => entry_any w.heap.size (encs (its.take k)).length t.base t.head t.tail hf.1.2.1 hf.1.2.2.1 t.ed t.fi t.mid (by omega) sv (Lib.byteCells (encs (its.take k))) W h1 h2 (by have := HBD.out k; omega))
          have HT := hid ht
          clear ht hf
          go_wp2_with fail
          refine (HC.out _ _ (HOWN.out.alloc _) (by simp; omega)).mono ?_
          rintro e w1 ⟨v1, rfl, hown1, hb1⟩
          have hown2 : w1.ownsRow w.heap.size 5 1 v1 (encs (its.take (k + 1))).length (Lib.byteCells (encs (its.take (k + 1)))) := by
            have hE : enc t.base t.ed t.fi t.head t.tail t.mid.data.toList = (its[k]).bytes := by rw [← HT.out]; rfl
            rw [hE] at hown1
            rw [encs_snoc its k hlt2, List.length_append, byteCells_app]
            exact hown1
          have HO2 := hid hown2
          have HB1 := hid ((hbel.alloc hs0 _).trans hb1)
          clear hown1 hown2 hb1
          go_wp2
          go_roundw
          case rel => exact ⟨k + 1, by omega, by go_num, HO2.out, HB1.out⟩
          case measure => simp [intOf]; omega
        · have hfull : its.take k = its := List.take_of_length_le (by have := HLEN.out; omega)
          have hpos : 1 ≤ (encs its).length := by
            have h0 : 0 < its.length := by have := HLEN.out; omega
            rw [encs_split its 0 h0]
            have := enc_pos (its[0]).base (its[0]).ed (its[0]).fi (its[0]).head (its[0]).tail (its[0]).mid.data.toList
            simp only [List.length_append]
            unfold Item.bytes
            omega
          have hown := HOWN.out
          rw [hfull] at hown
          obtain ⟨g, c, rfl, hnc, hc, hg, hgl, _, hlies⟩ := lies_of_owns hown hpos
          have HLIES := hid hlies
          have hN : (encs its).length ≤ 272384 := by have := HBD.out k; rw [hfull] at this; exact this
          clear hown HOWN hlies hfull
          obtain ⟨N, hNe⟩ : ∃ N, N = (encs its).length := ⟨_, rfl⟩
          rw [← hNe] at hnc hpos hN ⊢
          have HN := hid hNe
          clear hNe
          go_wp2
          go_loopw [7, 8] (fun vo vi wx => ∃ k o : Nat, k ≤ len ∧ vi = .int .i64 k ∧ vo = .int .i64 o ∧ o = (encs (its.take k)).length ∧ Below w.heap.size w wx ∧ Lies wx g 0 (encs its)) (fun _ vi _ => len - (intOf vi).toNat)
          case atStart => exact ⟨0, 0, Nat.zero_le _, rfl, rfl, rfl, hbel, HLIES.out⟩
          case round =>
            obtain ⟨k, off, hk, rfl, rfl, hoff, hbx, hlx⟩ := hrel
            have hsx := hbx.size
            have hgx : g < wr.heap.size := World.block_lt_of_cell? _ _ (hlx 0 (by rw [← HN.out]; omega))
            by_cases hlt : k < len
            · have hlt2 : k < its.length := by rw [HLEN.out]; exact hlt
              obtain ⟨t, ht⟩ : ∃ t, t = its[k] := ⟨_, rfl⟩
              have hi := (HAT.out k hlt2).below hbx
              rw [← ht] at hi
              have hf := HALL.out t (by rw [ht]; exact List.getElem_mem _)
              have hsplit := encs_split its k hlt2
              rw [← ht] at hsplit
              have hsn := encs_snoc its k hlt2
              rw [← ht] at hsn
              obtain ⟨m, hm⟩ : ∃ m, m = t.bytes.length := ⟨_, rfl⟩
              have hm1 : 1 ≤ m := by rw [hm]; exact enc_pos _ _ _ _ _ _
              have hle : off + m ≤ N := by
                rw [HN.out, hsplit, hoff, hm]; simp only [List.length_append]; omega
              have hnext : off + m = (encs (its.take (k + 1))).length := by rw [hsn, hoff, hm, List.length_append]
              obtain ⟨c0, c1, c2, c3, c4, c5⟩ := hi
              have HR : Hid (∀ W, Lies W g 0 (encs its) → Calls Yba.prog 11 #[.slice (some ⟨g, off, none⟩) (N - off) (c - off)] W fun e w' => e = .returned (.tuple #[.agg #[.int .i64 (baseI t.base), .bool t.ed, .int .i64 (numI t.ed t.head), .int .i64 (numI t.ed t.tail), .string (midI t.ed t.mid)], .bool t.fi, .int .i64 (m : Nat)]) ∧ Below W.heap.size W w') := by
                intro W hW
                have hlen2 : (t.bytes ++ encs (its.drop (k + 1))).length = N - off := by
                  rw [HN.out, hsplit, hoff]; simp
                have hm2 := hW.mid (encs (its.take k)) (t.bytes ++ encs (its.drop (k + 1))) [] (by rw [hsplit]; simp)
                rw [← hoff, Nat.zero_add] at hm2
                have := read_any g off (N - off) (c - off) _ t.base t.head t.tail hf.1.2.1 hf.1.2.2.1 t.ed t.fi t.mid _ (by omega) W hlen2 hm2 rfl (by omega) (by omega)
                rw [hm]
                exact this
              have HO := hid (fun W => ok_any t.base t.head t.tail t.ed t.fi t.mid W)
              have HX := hid hnext
              have HLX := hid hlx
              have hne : ¬ c = off := by omega
              clear ht hf hsplit hsn hm hnext hoff hlx
              go_wp2_with fail
              refine (HR.out _ (HLX.out.alloc _)).mono ?_
              rintro e w1 ⟨rfl, hb1⟩
              have hs1 := hb1.size
              have hsw : (wr.alloc (.cells #[.int .u64 t.base, .bool t.ed, .bool t.fi, .int .u64 t.head, .int .u64 t.tail, .string t.mid] 51)).heap.size = wr.heap.size + 1 := by simp
              have hold : ∀ q v, (wr.alloc (.cells #[.int .u64 t.base, .bool t.ed, .bool t.fi, .int .u64 t.head, .int .u64 t.tail, .string t.mid] 51)).cell? ⟨wr.heap.size, q, none⟩ = some v → ∀ X, (w1.alloc X).cell? ⟨wr.heap.size, q, none⟩ = some v := by
                intro q v hv X
                refine cell_alloc_old ?_ X
                rw [hb1.cell (by rw [hsw]; exact Nat.lt_succ_self _)]
                exact hv
              have d0 := hold 0 (.int .u64 t.base) (by simp)
              have d1 := hold 1 (.bool t.ed) (by simp)
              have d2 := hold 2 (.bool t.fi) (by simp)
              have d3 := hold 3 (.int .u64 t.head) (by simp)
              have d4 := hold 4 (.int .u64 t.tail) (by simp)
              have d5 := hold 5 (.string t.mid) (by simp)
              have HB1 := hid hb1
              rw [hsw] at hs1
              have HS := hid hsw
              clear hb1 hold hsw
              go_wp2_with fail
              refine (HO.out _).mono ?_
              rintro e w2 ⟨rfl, hb2⟩
              have HB2 := hid hb2
              clear hb2 d0 d1 d2 d3 d4 d5 c0 c1 c2 c3 c4 c5
              go_wp2
              go_roundw
              case rel =>
                have hb1 := HB1.out
                have hb2 := HB2.out
                have hsw := HS.out
                have hz : (w1.alloc (.cells #[.int .i64 (baseI t.base), .bool t.ed, .int .i64 (numI t.ed t.head), .int .i64 (numI t.ed t.tail), .string (midI t.ed t.mid)] 44)).heap.size = w1.heap.size + 1 := by simp
                refine ⟨k + 1, off + m, by omega, by go_num, by go_num, HX.out, ?_, ?_⟩
                · exact (((hbx.alloc hsx _).trans (hb1.mono (by rw [hsw]; omega))).alloc (by omega) _).trans (hb2.mono (by rw [hz]; omega))
                · exact (((HLX.out.alloc _).below hb1).alloc _).below hb2
              case measure => simp [intOf]; omega
            · have hend : off = N := by
                rw [hoff, HN.out, List.take_of_length_le (by have := HLEN.out; omega)]
              subst hend
              have HBX := hid hbx
              clear hoff hlx hbx HN HLIES
              go_wp2
              go_ret
              exact ⟨rfl, HBX.out⟩

end Go.Proofs.Ybulkbudk
