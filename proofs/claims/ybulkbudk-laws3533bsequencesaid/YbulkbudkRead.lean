/- The walk of readMessage over bytes that begin with an entry's head. -/
import Derived.Test.YbulkbudkShelf
import Derived.Test.YbulkbudkMath
import Derived.Test.YbulkbudkRows
import Derived.WalkKit
import Derived.WalkSpells
namespace Go.Proofs.Ybulkbudk
open Go.RowKit
theorem hid {p : Prop} (h : p) : Hid p := h
/-- The bytes l lie from ⟨g, o⟩ on. -/
def Lies (w : World) (g o : Nat) (l : List UInt8) : Prop := ∀ j (hj : j < l.length), w.cell? ⟨g, o + j, none⟩ = some (.int .u8 (l[j]).toNat)

theorem Lies.block {w w' : World} {g o : Nat} {l : List UInt8} (h : Lies w g o l) (hb : g < w.heap.size → w'.heap[g]? = w.heap[g]?) : Lies w' g o l := by
  intro j hj
  have h1 := h j hj
  have hlt : g < w.heap.size := World.block_lt_of_cell? _ _ h1
  rw [World.cell?_of_block (w := w) (a := ⟨g, o + j, none⟩) (hb hlt)]
  exact h1

theorem Lies.alloc {w : World} {g o : Nat} {l : List UInt8} (h : Lies w g o l) (x : Obj) : Lies (w.alloc x) g o l :=
  h.block fun hlt => Below.heap_alloc w x g hlt

theorem Lies.mid {w : World} {g o : Nat} {l : List UInt8} (h : Lies w g o l) (p s t : List UInt8) (e : l = p ++ (s ++ t)) : Lies w g (o + p.length) s := by
  intro j hj
  have hj' : p.length + j < l.length := by rw [e]; simp; omega
  have := h (p.length + j) hj'
  rw [Nat.add_assoc, this]
  subst e
  simp [List.getElem_append_right, List.getElem_append_left, hj]

theorem uv_at (g o n c k m : Nat) (l p s : List UInt8) (x : Nat) (hl : l.length = n) (hp : p.length = k) (hm : (Lib.uvarint x).length = m) (hlp : l = p ++ (Lib.uvarint x ++ s)) (hx : x < 18446744073709551616) (w : World) (hc : Lies w g o l) :
    Calls Yba.prog 14 #[.slice (some ⟨g, o + k, none⟩) (n - k) (c - k)] w fun e w' => e = .returned (.tuple #[.int .u64 x, .int .i64 (m : Nat)]) ∧ w' = w := by
  subst hp
  subst hm
  have hlen : (Lib.uvarint x ++ s).length = n - p.length := by
    rw [← hl, hlp]; simp
  have h := Yba.binary_Uvarint g (o + p.length) (n - p.length) (c - p.length) (Lib.uvarint x ++ s) w hlen (hc.mid p (Lib.uvarint x ++ s) [] (by rw [hlp]; simp))
  rw [dec_enc x hx s] at h
  exact h

theorem conv_at (g o len cap : Nat) (mid : List UInt8) (hlen : mid.length = len) (w : World) (hc : Lies w g o mid) :
    (convert 41 9 (.slice (some ⟨g, o, none⟩) len cap)).run Yba.prog w = .ok (.string ⟨mid.toArray⟩) w := by
  have h := run_convert_bytes_arg (P := Yba.prog) w 41 5 Yba.underlying41 Yba.underlying5 g o len cap (mid.map fun b => (b.toNat : Int)) (by simpa using hlen) (by
    intro i hi
    have hi' : i < mid.length := by omega
    rw [hc i hi']
    simp [List.getD, List.getElem?_eq_getElem hi']) 9 Yba.underlying9
  have e : strOfNums (mid.map fun b => (b.toNat : Int)) = ⟨mid.toArray⟩ := by
    have e1 : ((fun n : Int => UInt8.ofNat n.toNat) ∘ fun b : UInt8 => (b.toNat : Int)) = id := by funext b; simp
    simp [strOfNums, e1]
  rw [h, e]

/-- What the message's base reads as. -/
def baseI (base : Nat) : Int := wrap64 ((base * 4 % 18446744073709551616 / 4 : Nat) : Int)

theorem baseI_tag (base : Nat) (ed fi : Bool) : wrap64 (((tagN base ed fi : Nat) : Int) / 4) = baseI base := by
  unfold baseI
  rw [← tagN_div base ed fi]
  congr 1

set_option maxHeartbeats 1000000 in
theorem read_no (g o n c : Nat) (l : List UInt8) (base : Nat) (fi : Bool) (rest : List UInt8) (w : World)
    (hl : l.length = n) (hcell : Lies w g o l) (he : l = Lib.uvarint (tagN base false fi) ++ rest) :
    Calls Yba.prog 11 #[.slice (some ⟨g, o, none⟩) n c] w fun e w' => e = .returned (.tuple #[.agg #[.int .i64 (baseI base), .bool false, .int .i64 0, .int .i64 0, .string ByteArray.empty], .bool fi, .int .i64 ((Lib.uvarint (tagN base false fi)).length : Nat)]) ∧ Below w.heap.size w w' := by
  have k0le := Lib.uvarint_length64 (tagN_lt base false fi)
  have hb := baseI_tag base false fi
  have a2 := tagN_and2 base false fi
  have a1 := tagN_and1 base false fi
  generalize hk0 : (Lib.uvarint (tagN base false fi)).length = k0 at k0le ⊢
  have HE := hid he
  have HL := hid hl
  have H0 := hid hk0
  have HB := hid hb
  clear he hl hk0 hb
  cases fi
  all_goals
    simp only [if_true, if_false, Bool.false_eq_true] at a1 a2
    go_enter Yba.func11, Yba.ntmps11
    go_wp2_with fail
    refine ((uv_at g o n c 0 k0 l [] rest _ HL.out rfl H0.out HE.out (tagN_lt _ _ _) _ (hcell.alloc _))).mono ?_
    rintro e w1 ⟨rfl, rfl⟩
    go_wp2
    refine bodyPost_ret (v := .tuple #[.agg #[.int .i64 (baseI base), .bool false, .int .i64 0, .int .i64 0, .string ByteArray.empty], .bool _, .int .i64 (k0 : Nat)]) (by rw [← HB.out]; simp [results, Yba.results11, go_sem]; rfl) rfl ⟨rfl, ?_⟩
    exact (Below.refl _ _).alloc (Nat.le_refl _) _

set_option maxHeartbeats 1000000 in
set_option maxRecDepth 100000 in
theorem read_yes (g o n c : Nat) (l : List UInt8) (base head tail : Nat) (hh : head < 18446744073709551616) (ht : tail < 18446744073709551616) (fi : Bool) (mid rest : List UInt8) (hm : mid.length ≤ 4096) (w : World)
    (hl : l.length = n) (hcell : Lies w g o l) (he : l = enc base true fi head tail mid ++ rest) (hnc : n ≤ c) (hc : c ≤ 9223372036854775807) :
    Calls Yba.prog 11 #[.slice (some ⟨g, o, none⟩) n c] w fun e w' => e = .returned (.tuple #[.agg #[.int .i64 (baseI base), .bool true, .int .i64 (wrap64 head), .int .i64 (wrap64 tail), .string ⟨mid.toArray⟩], .bool fi, .int .i64 ((enc base true fi head tail mid).length : Nat)]) ∧ Below w.heap.size w w' := by
  have k0le := Lib.uvarint_length64 (tagN_lt base true fi)
  have k1le := Lib.uvarint_length64 hh
  have k2le := Lib.uvarint_length64 ht
  have hml : mid.length < 18446744073709551616 := by omega
  have k3le := Lib.uvarint_length64 hml
  have k1ge := Lib.uvarint_pos head
  have k2ge := Lib.uvarint_pos tail
  have k3ge := Lib.uvarint_pos mid.length
  have hb := baseI_tag base true fi
  have a2 := tagN_and2 base true fi
  have a1 := tagN_and1 base true fi
  have el : (enc base true fi head tail mid).length = (Lib.uvarint (tagN base true fi)).length + (Lib.uvarint head).length + (Lib.uvarint tail).length + (Lib.uvarint mid.length).length + mid.length := by
    simp only [enc, if_true, List.length_append]; omega
  have hn : (enc base true fi head tail mid).length ≤ n := by rw [← hl, he]; simp
  rw [el] at hn ⊢
  have e0 : l = Lib.uvarint (tagN base true fi) ++ (Lib.uvarint head ++ (Lib.uvarint tail ++ (Lib.uvarint mid.length ++ (mid ++ rest)))) := by rw [he]; simp [enc]
  have e1 : l = Lib.uvarint (tagN base true fi) ++ (Lib.uvarint head ++ (Lib.uvarint tail ++ (Lib.uvarint mid.length ++ (mid ++ rest)))) := e0
  have e2 : l = (Lib.uvarint (tagN base true fi) ++ Lib.uvarint head) ++ (Lib.uvarint tail ++ (Lib.uvarint mid.length ++ (mid ++ rest))) := by rw [e0]; simp
  have e3 : l = (Lib.uvarint (tagN base true fi) ++ Lib.uvarint head ++ Lib.uvarint tail) ++ (Lib.uvarint mid.length ++ (mid ++ rest)) := by rw [e0]; simp
  have e4 : l = (Lib.uvarint (tagN base true fi) ++ Lib.uvarint head ++ Lib.uvarint tail ++ Lib.uvarint mid.length) ++ (mid ++ rest) := by rw [e0]; simp
  have p2 : (Lib.uvarint (tagN base true fi) ++ Lib.uvarint head).length = (Lib.uvarint (tagN base true fi)).length + (Lib.uvarint head).length := by simp
  have p3 : (Lib.uvarint (tagN base true fi) ++ Lib.uvarint head ++ Lib.uvarint tail).length = (Lib.uvarint (tagN base true fi)).length + (Lib.uvarint head).length + (Lib.uvarint tail).length := by simp; omega
  have p4 : (Lib.uvarint (tagN base true fi) ++ Lib.uvarint head ++ Lib.uvarint tail ++ Lib.uvarint mid.length).length = (Lib.uvarint (tagN base true fi)).length + (Lib.uvarint head).length + (Lib.uvarint tail).length + (Lib.uvarint mid.length).length := by simp; omega
  have hcv : ∀ x : Obj, ∀ cap, (convert 41 9 (.slice (some ⟨g, o + ((Lib.uvarint (tagN base true fi)).length + (Lib.uvarint head).length + (Lib.uvarint tail).length + (Lib.uvarint mid.length).length), none⟩) mid.length cap)).run Yba.prog (w.alloc x) = .ok (.string ⟨mid.toArray⟩) (w.alloc x) := by
    intro x cap
    have := (hcell.alloc x).mid _ mid rest e4
    rw [p4] at this
    exact conv_at _ _ _ _ _ rfl _ this
  have hcv0 : mid.length = 0 → ∀ x : Obj, ∀ cap, (convert 41 9 (.slice (some ⟨g, o, none⟩) mid.length cap)).run Yba.prog (w.alloc x) = .ok (.string ⟨mid.toArray⟩) (w.alloc x) := by
    intro h0 x cap
    exact conv_at _ _ _ _ mid rfl _ (fun j hj => absurd hj (by omega))
  generalize hk0 : (Lib.uvarint (tagN base true fi)).length = k0 at *
  generalize hk1 : (Lib.uvarint head).length = k1 at *
  generalize hk2 : (Lib.uvarint tail).length = k2 at *
  generalize hk3 : (Lib.uvarint mid.length).length = k3 at *
  have C1 := fun W hW => uv_at g o n c 0 k0 l [] _ _ hl rfl hk0 e0 (tagN_lt _ _ _) W hW
  have C2 := fun W hW => uv_at g o n c k0 k1 l _ _ _ hl hk0 hk1 e1 hh W hW
  have C3 := fun W hW => uv_at g o n c (k0 + k1) k2 l _ _ _ hl p2 hk2 e2 ht W hW
  have C4 := fun W hW => uv_at g o n c (k0 + k1 + k2) k3 l _ _ _ hl p3 hk3 e3 hml W hW
  have HB := hid hb
  have D1 := hid C1
  have D2 := hid C2
  have D3 := hid C3
  have D4 := hid C4
  clear he hl hk0 hk1 hk2 hk3 hb e0 e1 e2 e3 e4 p2 p3 p4 C1 C2 C3 C4 el
  generalize hmm : mid.length = m at *
  clear hmm
  have HV := hid hcv
  have HW := hid hcv0
  clear hcv hcv0
  cases fi
  all_goals
    simp only [if_true, if_false, Bool.false_eq_true] at a1 a2
    go_enter Yba.func11, Yba.ntmps11
    go_wp2_with fail
    refine (D1.out _ (hcell.alloc _)).mono ?_
    rintro e w1 ⟨rfl, rfl⟩
    have x1 : ¬ c = k0 := by omega
    go_wp2_with fail
    refine (D2.out _ (hcell.alloc _)).mono ?_
    rintro e w1 ⟨rfl, rfl⟩
    have x2 : ¬ c = k0 + k1 := by omega
    go_wp2_with fail
    refine (D3.out _ (hcell.alloc _)).mono ?_
    rintro e w1 ⟨rfl, rfl⟩
    have x3 : ¬ c = k0 + k1 + k2 := by omega
    go_wp2_with fail
    refine (D4.out _ (hcell.alloc _)).mono ?_
    rintro e w1 ⟨rfl, rfl⟩
    go_wp2
    all_goals
      first | rw [HV.out] | rw [HW.out (by omega)]
      go_wp2
      refine bodyPost_ret (v := .tuple #[.agg #[.int .i64 (baseI base), .bool true, .int .i64 (wrap64 head), .int .i64 (wrap64 tail), .string ⟨mid.toArray⟩], .bool _, .int .i64 ((k0 + k1 + k2 + k3 + m : Nat) : Int)]) (by rw [← HB.out]; simp [results, Yba.results11, go_sem]) rfl ⟨rfl, ?_⟩
      exact (Below.refl _ _).alloc (Nat.le_refl _) _

end Go.Proofs.Ybulkbudk
