/- The walks of zzs3544cput, etherPayload and ethernetIP. -/
import Derived.Test.YbulkbujiLaws
import Derived.Deep.LoopGhost
import Derived.Deep.RegionWith
import Derived.Lib.VarintMem
namespace Go.Proofs.Ybulkbuji
open Go.RowKit

theorem cell_new2 (w : World) (t : TypeId) (z0 z1 : Value) : ∀ j u, [z0, z1][j]? = some u → (w.alloc (.cells #[z0, z1] t)).cell? ((⟨w.heap.size, 0, none⟩ : Addr).add j) = some u := by
  intro j u hu
  match j, hu with
  | 0, hu => simp at hu; subst hu; simp [Addr.add]
  | 1, hu => simp at hu; subst hu; simp [Addr.add]

theorem own_eq {w : World} {B k N : Nat} {v : Value} {ys zs : List Value} (h : w.ownsRow B 5 1 v k ys) (hk : k = N) (hy : ys = zs) : w.ownsRow B 5 1 v N zs := by
  subst hk; subst hy; exact h

/-- A uint16's two bytes, the greatest first. -/
def two (v : Nat) : List Int := [((v / 256 : Nat) : Int), ((v % 256 : Nat) : Int)]

set_option maxHeartbeats 1000000 in
set_option maxRecDepth 100000 in
theorem put_own (B n v : Nat) (hv : v < 65536) (sv : Value) (xs : List Value) (w : World) (hown : w.ownsRow B 5 1 sv n xs) (hB : B ≤ w.heap.size) (hn : n ≤ 1000000) :
    Calls Yba.prog 7 #[sv, .int .u16 v] w fun e w' => ∃ v', e = .returned v' ∧ w'.ownsRow B 5 1 v' (n + 2) (xs ++ cellsZ (two v)) ∧ Below B w w' := by
  have HO := hid hown
  clear hown
  go_enter Yba.func7, Yba.ntmps7
  go_wp2_with (at_builtin; refine app22 rfl _ _ rfl B sv n xs rfl (HO.out.alloc _) ⟨w.heap.size, 0, none⟩ 2 2 [_, _] rfl rfl (cell_new2 _ _ _ _) (ints_oneCell _ [_, _]) (by omega) (by simp; omega) ?_)
  intro v' w' hown' hb'
  go_wp2
  go_ret
  refine ⟨v', rfl, ?_, ((Below.refl _ _).alloc hB _).trans hb'⟩
  refine own_eq hown' rfl ?_
  simp only [two, cellsZ, List.map_cons, List.map_nil, List.append_cancel_left_eq, List.cons.injEq, Value.int.injEq, true_and, and_true]
  omega

/-- Tags (a kind, a control word), then the last type, then the payload: as bytes from a type's place on. -/
def tail (f : Nat) (pay : List Int) : List (Nat × Nat) → List Int
  | [] => two f ++ pay
  | (k, t) :: r => two k ++ (two t ++ tail f pay r)

/-- The first type; and what lies behind it. -/
def headT (f : Nat) : List (Nat × Nat) → Nat
  | [] => f
  | (k, _) :: _ => k
def after (f : Nat) (pay : List Int) : List (Nat × Nat) → List Int
  | [] => pay
  | (_, t) :: r => two t ++ tail f pay r

theorem tail_eq (f : Nat) (pay : List Int) (l : List (Nat × Nat)) : tail f pay l = two (headT f l) ++ after f pay l := by
  cases l with
  | nil => rfl
  | cons x r => rfl

def isTag (k : Nat) : Prop := k = 33024 ∨ k = 34984

/-- The bytes L lie from ⟨g, o⟩ on. -/
def Lie (w : World) (g o : Nat) (L : List Int) : Prop := ∀ j, j < L.length → w.cell? ⟨g, o + j, none⟩ = some (.int .u8 (L.getD j 0))

theorem Lie.below {w w' : World} {g o : Nat} {L : List Int} (h : Lie w g o L) (hb : Below w.heap.size w w') : Lie w' g o L := fun j hj => by
  have h1 := h j hj
  exact cell_below hb (World.block_lt_of_cell? _ _ h1) h1

theorem Lie.drop {w : World} {g o : Nat} {L : List Int} (a b : List Int) (h : Lie w g o L) (e : L = a ++ b) : Lie w g (o + a.length) b := by
  intro j hj
  have := h (a.length + j) (by rw [e]; simp; omega)
  rw [Nat.add_assoc, this, e]
  simp [List.getD, List.getElem?_append_right]

theorem u16_two (v : Nat) (hv : v < 65536) (g o n c : Nat) (L : List Int) (w : World) (hn : 2 ≤ n) (h : Lie w g o (two v ++ L)) :
    Calls Yba.prog 9 #[.agg #[], .slice (some ⟨g, o, none⟩) n c] w fun e w' => e = .returned (.int .u16 v) ∧ Below w.heap.size w w' := by
  have c0 : w.cell? ⟨g, o, none⟩ = some (.int .u8 ((v / 256 : Nat) : Int)) := h 0 (by simp [two])
  have c1 : w.cell? ⟨g, o + 1, none⟩ = some (.int .u8 ((v % 256 : Nat) : Int)) := h 1 (by simp [two])
  have h1 := Yba.binary_BE_Uint16 g o n c (v / 256).toUInt8 (v % 256).toUInt8 w hn
    (by rw [c0, Lib.toUInt8_toNat (by omega)]) (by rw [c1, Lib.toUInt8_toNat (by omega)])
  have e : Lib.beNat [(v / 256).toUInt8, (v % 256).toUInt8] = v := by
    simp only [Lib.beNat, Lib.beFrom]
    rw [Lib.toUInt8_toNat (by omega), Lib.toUInt8_toNat (by omega)]
    omega
  rw [e] at h1
  exact h1

/-- What etherPayload hands back: the payload's slice, or nil. -/
def PayPost (f p g top : Nat) (v : Value) : Prop :=
  ((f = 2048 ∨ f = 34525) → ∃ a' c', v = .slice (some a') p c' ∧ p ≤ c' ∧ c' ≤ 9223372036854775807 ∧ (1 ≤ p → a' = ⟨g, top - p, none⟩)) ∧
  (¬ (f = 2048 ∨ f = 34525) → v = .slice none 0 0)

theorem PayPost.yes {f p g top m o c' : Nat} {a' : Addr} (hf : f = 2048 ∨ f = 34525) (hm : m = p) (hmc : m ≤ c') (hc' : c' ≤ 9223372036854775807) (ha : 1 ≤ m → a' = ⟨g, o, none⟩) (ho : o + m = top) :
    PayPost f p g top (.slice (some a') m c') := by
  subst hm
  refine ⟨fun _ => ⟨a', c', rfl, hmc, hc', fun h => ?_⟩, fun h => absurd hf h⟩
  rw [ha h]
  congr 1
  omega

theorem PayPost.no {f p g top : Nat} (hf : ¬ (f = 2048 ∨ f = 34525)) : PayPost f p g top (.slice none 0 0) := ⟨fun h => absurd h hf, fun _ => rfl⟩

set_option maxHeartbeats 2000000 in
set_option maxRecDepth 100000 in
theorem pay_any (f : Nat) (hf : f < 65536) (hft : ¬ isTag f) (pay : List Int) (tags : List (Nat × Nat)) (ht : ∀ x ∈ tags, isTag x.1 ∧ x.2 < 65536) (g off n c : Nat) (w : World)
    (hn : n = (after f pay tags).length) (hnc : n ≤ c) (hc : c ≤ 9223372036854775807) (hl : Lie w g off (after f pay tags)) (a : Addr) (ha : 1 ≤ n → a = ⟨g, off, none⟩) :
    Calls Yba.prog 8 #[.int .u16 (headT f tags), .slice (some a) n c] w fun e w' =>
      ∃ v, e = .returned v ∧ PayPost f pay.length g (off + n) v ∧ Below w.heap.size w w' := by
  have HT := hid ht
  have HL := hid hl
  have HA := hid ha
  have HN := hid hn
  have HF := hid hft
  clear ht hl ha hn hft
  go_enter Yba.func8, Yba.ntmps8
  go_wp2
  go_loopg [0, 1] tags.length (fun gk t rest wr => ∃ (l : List (Nat × Nat)) (m o c' : Nat) (a' : Addr), l.length ≤ gk ∧ t = .int .u16 (headT f l) ∧ rest = .slice (some a') m c' ∧ m = (after f pay l).length ∧ m ≤ c' ∧ c' ≤ 9223372036854775807 ∧ (1 ≤ m → a' = ⟨g, o, none⟩) ∧ o + m = off + n ∧ Lie wr g o (after f pay l) ∧ (∀ x ∈ l, isTag x.1 ∧ x.2 < 65536) ∧ Below w.heap.size w wr)
  case atStart => exact ⟨tags, n, off, c, a, Nat.le_refl _, rfl, rfl, HN.out, hnc, hc, HA.out, rfl, HL.out, HT.out, Below.refl _ _⟩
  case round =>
    obtain ⟨l, m, o, c', a', hlg, rfl, rfl, hm, hmc, hc', ha', hom, hlie, hlt, hb⟩ := hrel
    have HM := hid hm
    have HA' := hid ha'
    have HO := hid hom
    have HLI := hid hlie
    have HLT := hid hlt
    have HB := hid hb
    clear hm ha' hom hlie hlt hb
    cases l with
    | nil =>
      have e0 : headT f [] = f := rfl
      have t1 : ((f : Int) == 33024) = false := by have := HF.out; unfold isTag at this; simp; omega
      have t2 : ((f : Int) == 34984) = false := by have := HF.out; unfold isTag at this; simp; omega
      rw [e0]
      clear e0
      have hml : m = pay.length := HM.out
      have HML := hid hml
      clear hml
      by_cases q1 : f = 2048
      · subst q1
        go_wp2
        go_ret
        exact ⟨_, rfl, PayPost.yes (Or.inl rfl) HML.out hmc hc' HA'.out HO.out, HB.out⟩
      · by_cases q2 : f = 34525
        · subst q2
          go_wp2
          go_ret
          exact ⟨_, rfl, PayPost.yes (Or.inr rfl) HML.out hmc hc' HA'.out HO.out, HB.out⟩
        · have t3 : ((f : Int) != 2048) = true := by simp; omega
          have t4 : ((f : Int) != 34525) = true := by simp; omega
          go_wp2
          go_ret
          exact ⟨_, rfl, PayPost.no (by omega), HB.out⟩
    | cons x r =>
      obtain ⟨k, tc⟩ := x
      have e0 : headT f ((k, tc) :: r) = k := rfl
      have e1 : after f pay ((k, tc) :: r) = two tc ++ tail f pay r := rfl
      have hk := (HLT.out (k, tc) (by simp)).1
      have hm4 : 4 ≤ m := by rw [HM.out, e1, tail_eq]; simp [two]
      have hmr : m = 4 + (after f pay r).length := by rw [HM.out, e1, tail_eq]; simp [two]; omega
      obtain rfl := HA'.out (by omega)
      have hlr : Lie wr g (o + 2) (two (headT f r) ++ after f pay r) := by
        have := HLI.out.drop (two tc) (tail f pay r) e1
        rw [tail_eq] at this
        exact this
      have hhr : headT f r < 65536 := by
        cases r with
        | nil => exact hf
        | cons y r2 => have := (HLT.out y (by simp)).1; unfold isTag at this; show y.1 < 65536; omega
      have HC := hid (fun n c h => u16_two (headT f r) hhr g (o + 2) n c (after f pay r) wr.drew h (fun j hj => hlr j hj))
      have HLR := hid hlr
      have HMR := hid hmr
      rw [e0]
      clear e0 e1 hlr hmr
      have hk2 : k = 33024 ∨ k = 34984 := hk
      clear hk
      rcases hk2 with rfl | rfl
      all_goals
        go_wp2_with fail
        go_region_with (go_at_call 9; refine (HC.out _ _ (by omega)).mono ?_; rintro e w2 ⟨rfl, hb2⟩)
        all_goals
          have HB2 : Hid (Below wr.heap.size wr w2) := (Below.refl _ wr).drew.trans hb2
          clear hb2
          go_wp2
          all_goals
            go_roundg r.length
            case measure => simp at hlg; omega
            case rel =>
              refine ⟨r, m - 4, o + 4, _, _, Nat.le_refl _, rfl, rfl, ?_, ?_, ?_, ?_, ?_, ?_, ?_, ?_⟩
              · have := HMR.out; omega
              · omega
              · omega
              · intro h; first | rfl | omega
              · have := HO.out; omega
              · have h4 := HLR.out.drop (two (headT f r)) (after f pay r) rfl
                exact h4.below HB2.out
              · exact fun x hx => HLT.out x (by simp [hx])
              · exact HB.out.trans (HB2.out.mono HB.out.size)

end Go.Proofs.Ybulkbuji
