/- LawS3533ALookup: behind the first loop. -/
import Derived.Test.YbulkbudkLk4
namespace Go.Proofs.Ybulkbudk
open Go.RowKit Go.Maps

theorem Both.below {w w' : World} {B bs bv : Nat} {es : List Ent} {j : Nat} {Ds Dv : DataW Value} (h : Both w B bs bv es j Ds Dv) (hb : Below w.heap.size w w') : Both w' B bs bv es j Ds Dv := by
  have g : w.grownBy w' none := ⟨hb.os, hb.tape, hb.output, hb.size, fun i hi _ => hb.block i hi⟩
  refine ⟨h.sets.kept g (by simp), h.vars.kept g (by simp), fun kl => ?_, h.has, h.size⟩
  obtain ⟨v, hv, hs⟩ := h.holds kl
  exact ⟨v, hv, hs.kept (fun g _ h2 => hb.block g h2)⟩

theorem Head.below {w wr W : World} {bs bv bl B : Nat} {es : List Ent} {k : Nat} (h : Head w wr bs bv bl B es k) (hb : Below wr.heap.size wr W) : Head w W bs bv bl B es k := by
  obtain ⟨Ds, Dv, hbo⟩ := h.both
  have hs := h.hs
  have h1 := h.bel.size
  have h2 := hb.size
  have c : ∀ {p : Addr} {v : Value}, wr.cell? p = some v → W.cell? p = some v := fun {p v} hp => by rw [hb.cell (World.block_lt_of_cell? _ _ hp)]; exact hp
  exact ⟨⟨Ds, Dv, hbo.below hb⟩, h.bel.trans (hb.mono h1), c h.l1, c h.l2, hs.1, hs.2.1, hs.2.2.1, hs.2.2.2.1, by omega⟩

/-- The place asked, in its box. -/
structure Asked (W : World) (bq : Nat) (f : ByteArray) (l c : Int) : Prop where
  q0 : W.cell? ⟨bq, 0, none⟩ = some (.string f)
  q1 : W.cell? ⟨bq, 1, none⟩ = some (.int .i64 l)
  q2 : W.cell? ⟨bq, 2, none⟩ = some (.int .i64 c)
  file : f.size ≤ maxLen
  line : (Lit.int .i64 l).wf = true
  col : (Lit.int .i64 c).wf = true

theorem Asked.below {W W' : World} {bq : Nat} {f : ByteArray} {l c : Int} (h : Asked W bq f l c) (hb : Below W.heap.size W W') : Asked W' bq f l c := by
  have k : ∀ {p : Addr} {v : Value}, W.cell? p = some v → W'.cell? p = some v := fun {p v} hp => by rw [hb.cell (World.block_lt_of_cell? _ _ hp)]; exact hp
  exact ⟨k h.q0, k h.q1, k h.q2, h.file, h.line, h.col⟩

/-- What the second loop finds. -/
def Want (es : List Ent) (kl : Lit) (v : Value) : Prop :=
  (v = .slice none 0 0 ∧ ∀ i (hi : i < es.length), es[i].kl ≠ kl) ∨
  ∃ i, ∃ hi : i < es.length, es[i].kl = kl ∧ (∀ i' (hi' : i' < es.length), i < i' → es[i'].kl ≠ kl) ∧ v = es[i].idsV

/-- Two slices that 'slices.Equal' holds equal, nil or not alike. -/
structure Alike (w : World) (a a' : Option Addr) (n c c' : Nat) : Prop where
  nil : a'.isNone = a.isNone
  eq : ∀ w', Below w.heap.size w w' → Calls Yba.prog 9 #[.slice a n c, .slice a' n c'] w' fun e w'' => e = .returned (.bool true) ∧ ∃ q, w'' = w'.drewN q

theorem alike_nil (w : World) : Alike w none none 0 0 0 := by
  refine ⟨rfl, fun w' _ => (Yba.slices_Equal_string_empty none none 0 0 0 w' (by omega)).mono ?_⟩
  rintro e w'' ⟨rfl, rfl⟩
  exact ⟨rfl, 0, rfl⟩

theorem alike_some (w : World) (g : Nat) (t : Ent) (hf : t.Fits) (p : Addr) (hp : t.spot = some p) (hr : RowAt w t) (hg : w.heap[g]? = some (.cells (cellsS t.ids).toArray 9 (0, 0))) :
    Alike w (some ⟨g, 0, none⟩) (addrOf t.spot) t.ids.length t.ids.length t.cap := by
  have hb := hf.big
  refine ⟨by rw [hp]; rfl, fun w' hw => ?_⟩
  rw [hp]
  have hcs : ∀ j, j < t.ids.length → (cellsS t.ids)[j]? = some (.string (t.ids.getD j ByteArray.empty)) := by
    intro j hj
    simp [cellsS, List.getElem?_eq_getElem hj, List.getD_eq_getElem?_getD]
  have k : ∀ {p : Addr} {v : Value}, w.cell? p = some v → w'.cell? p = some v := fun {p v} hp => by rw [hw.cell (World.block_lt_of_cell? _ _ hp)]; exact hp
  rcases Nat.eq_zero_or_pos t.ids.length with h0 | hpos
  · rw [h0]
    refine (Yba.slices_Equal_string_empty (some ⟨g, 0, none⟩) (some p) 0 0 t.cap w' (by omega)).mono ?_
    rintro e w'' ⟨rfl, rfl⟩
    exact ⟨rfl, 0, rfl⟩
  obtain ⟨pb, po, ps⟩ := p
  have hspot : ps = none := by simpa [Addr.add] using World.cell?_spot (hr _ hp 0 _ (hcs 0 hpos))
  subst hspot
  show Calls Yba.prog 9 #[.slice (some ⟨g, 0, none⟩) t.ids.length t.ids.length, .slice (some ⟨pb, po, none⟩) t.ids.length t.cap] w' _
  refine (Yba.slices_Equal_string g 0 t.ids.length t.ids.length pb po t.ids.length t.cap t.ids t.ids w' (Nat.le_refl _) (Nat.le_refl _) (by omega) (by omega) ?_ ?_).mono ?_
  · intro j hj
    refine k ?_
    have := hcs j hj
    simp only [World.cell?, hg]
    simp [this]
  · intro j hj
    refine k ?_
    have := hr _ hp j _ (hcs j hj)
    have e : (⟨pb, po, none⟩ : Addr).add j = ⟨pb, po + j, none⟩ := by
      simp only [Addr.add]
      split
      · next h => subst h; rfl
      · rfl
    rw [e] at this
    exact this
  · rintro e w'' ⟨rfl, q, rfl⟩
    exact ⟨by simp, q, rfl⟩

/-- What the map holds at the place asked is what the second loop finds. -/
theorem alike {w : World} {B : Nat} {es : List Ent} {kl : Lit} {v v' : Value} (hs : Stands w B es es.length kl v) (hw : Want es kl v') (hf : ∀ i (hi : i < es.length), es[i].Fits) (hr : ∀ i (hi : i < es.length), RowAt w es[i]) :
    ∃ a a' n c c', v = .slice a n c ∧ v' = .slice a' n c' ∧ Alike w a a' n c c' := by
  rcases hs with ⟨rfl, h1⟩ | ⟨i, hi, _, h2, h3, h4⟩
  · rcases hw with ⟨rfl, _⟩ | ⟨i', hi', k2, _⟩
    · exact ⟨_, _, _, _, _, rfl, rfl, alike_nil w⟩
    · exact absurd k2 (h1 i' hi' hi')
  · rcases hw with ⟨rfl, k1⟩ | ⟨i', hi', k2, k3, rfl⟩
    · exact absurd h2 (k1 i hi)
    · obtain rfl : i = i' := by
        rcases Nat.lt_trichotomy i i' with h | h | h
        · exact absurd k2 (h3 i' hi' h hi')
        · exact h
        · exact absurd h2 (k3 i hi h)
      rcases h4 with ⟨n1, rfl⟩ | ⟨⟨p, hp⟩, g, _, rfl, hg⟩
      · obtain ⟨m1, m2⟩ := (hf i hi).nil n1
        refine ⟨_, _, _, _, _, rfl, ?_, alike_nil w⟩
        simp [Ent.idsV, n1, addrOf, m1, m2]
      · exact ⟨_, _, _, _, _, rfl, rfl, alike_some w g _ (hf i hi) p hp (hr i hi) hg⟩

end Go.Proofs.Ybulkbudk
