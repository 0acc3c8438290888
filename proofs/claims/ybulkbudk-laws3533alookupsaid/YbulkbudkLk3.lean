/- LawS3533ALookup: what the two maps hold, plainly. -/
import Derived.Test.YbulkbudkLk2
namespace Go.Proofs.Ybulkbudk
open Go.RowKit Go.Maps

/-- The ids that an entry names, in the world. -/
def RowAt (w : World) (e : Ent) : Prop := ∀ p, e.spot = some p → ∀ j u, (cellsS e.ids)[j]? = some u → w.cell? (p.add j) = some u
/-- An entry's four cells at a place, its ids, its bounds. -/
structure EntAt (w : World) (b o : Nat) (e : Ent) : Prop where
  c0 : w.cell? ⟨b, o, none⟩ = some (.string e.file)
  c1 : w.cell? ⟨b, o + 1, none⟩ = some (.int .i64 e.line)
  c2 : w.cell? ⟨b, o + 2, none⟩ = some (.int .i64 e.col)
  c3 : w.cell? ⟨b, o + 3, none⟩ = some e.idsV
  row : RowAt w e

theorem EntAt.below {w w' : World} {b o : Nat} {e : Ent} (h : EntAt w b o e) (hb : Below w.heap.size w w') : EntAt w' b o e := by
  have k : ∀ {p : Addr} {v : Value}, w.cell? p = some v → w'.cell? p = some v := fun {p v} hp => by rw [hb.cell (World.block_lt_of_cell? _ _ hp)]; exact hp
  exact ⟨k h.c0, k h.c1, k h.c2, k h.c3, fun p hp j u hu => k (h.row p hp j u hu)⟩

/-- v is a copy of e's ids, made by the call (its block lies at or above B). -/
def Clone (w : World) (B : Nat) (v : Value) (e : Ent) : Prop :=
  (e.spot = none ∧ v = .slice none 0 0) ∨ (∃ p, e.spot = some p) ∧ ∃ g, B ≤ g ∧ v = .slice (some ⟨g, 0, none⟩) e.ids.length e.ids.length ∧ w.heap[g]? = some (.cells (cellsS e.ids).toArray 9 (0, 0))

/-- v stands for the last of the first j entries at the key kl. -/
def Stands (w : World) (B : Nat) (es : List Ent) (j : Nat) (kl : Lit) (v : Value) : Prop :=
  (v = .slice none 0 0 ∧ ∀ i (hi : i < es.length), i < j → es[i].kl ≠ kl) ∨
  ∃ i, ∃ hi : i < es.length, i < j ∧ es[i].kl = kl ∧ (∀ i' (hi' : i' < es.length), i < i' → i' < j → es[i'].kl ≠ kl) ∧ Clone w B v es[i]

theorem Clone.kept {w w' : World} {B : Nat} {v : Value} {e : Ent} (h : Clone w B v e) (hk : ∀ g, B ≤ g → g < w.heap.size → w'.heap[g]? = w.heap[g]?) : Clone w' B v e := by
  rcases h with h | ⟨h1, g, hg, hv, hh⟩
  · exact .inl h
  · exact .inr ⟨h1, g, hg, hv, (hk g hg (Array.getElem?_eq_some_iff.1 hh).1).trans hh⟩

theorem Stands.kept {w w' : World} {B : Nat} {es : List Ent} {j : Nat} {kl : Lit} {v : Value} (h : Stands w B es j kl v) (hk : ∀ g, B ≤ g → g < w.heap.size → w'.heap[g]? = w.heap[g]?) : Stands w' B es j kl v := by
  rcases h with h | ⟨i, hi, h1, h2, h3, h4⟩
  · exact .inl h
  · exact .inr ⟨i, hi, h1, h2, h3, h4.kept hk⟩

theorem Stands.other {w : World} {B : Nat} {es : List Ent} {j : Nat} {kl : Lit} {v : Value} (h : Stands w B es j kl v) (hj : j < es.length) (hne : es[j].kl ≠ kl) : Stands w B es (j + 1) kl v := by
  rcases h with ⟨hv, h⟩ | ⟨i, hi, h1, h2, h3, h4⟩
  · refine .inl ⟨hv, fun i hi hij => ?_⟩
    by_cases e : i = j
    · subst e; exact hne
    · exact h i hi (by omega)
  · refine .inr ⟨i, hi, by omega, h2, fun i' hi' h5 h6 => ?_, h4⟩
    by_cases e : i' = j
    · subst e; exact hne
    · exact h3 i' hi' h5 (by omega)

theorem Stands.same {w : World} {B : Nat} {es : List Ent} {j : Nat} {v : Value} (hj : j < es.length) (h : Clone w B v es[j]) : Stands w B es (j + 1) es[j].kl v :=
  .inr ⟨j, hj, by omega, rfl, fun i' _ h5 h6 => absurd h6 (by omega), h⟩

/-- What the two maps hold behind the first j entries. -/
structure Both (w : World) (B bs bv : Nat) (es : List Ent) (j : Nat) (Ds Dv : DataW Value) : Prop where
  sets : w.ownsMap Yba.prog 34 R bs j Ds
  vars : w.ownsMap Yba.prog 34 R bv j Dv
  holds : ∀ kl, ∃ v, Ds.atKey kl (.held (.slice none 0 0)) = .held v ∧ Stands w B es j kl v
  has : ∀ kl, Maps.has Ds kl = Maps.has Dv kl
  size : Maps.size Ds = Maps.size Dv

theorem Both.start (w : World) (B bs bv : Nat) (es : List Ent) (h1 : w.ownsMap Yba.prog 34 R bs 0 (.map [])) (h2 : w.ownsMap Yba.prog 34 R bv 0 (.map [])) : Both w B bs bv es 0 (.map []) (.map []) :=
  ⟨h1, h2, fun _ => ⟨_, rfl, .inl ⟨rfl, fun i _ h => absurd h (by omega)⟩⟩, fun _ => rfl, rfl⟩

theorem Both.next {w w' : World} {B bs bv : Nat} {es : List Ent} {j : Nat} {Ds Dv : DataW Value} (h : Both w B bs bv es j Ds Dv) (hj : j < es.length) (hf : es[j].Fits) (v : Value) (d : DataW Value)
    (h1 : w'.ownsMap Yba.prog 34 R bs (j + 1) (Ds.put es[j].kl (.held v))) (h2 : w'.ownsMap Yba.prog 34 R bv (j + 1) (Dv.put es[j].kl d))
    (hk : ∀ g, B ≤ g → g < w.heap.size → w'.heap[g]? = w.heap[g]?) (hc : Clone w' B v es[j]) : Both w' B bs bv es (j + 1) (Ds.put es[j].kl (.held v)) (Dv.put es[j].kl d) := by
  have hkey : keyOf Yba.prog 34 es[j].key = some es[j].kl := keyOf_mk _ _ _ hf.file hf.line hf.col
  have hlit := keyed34.key hkey
  have t1 := h.sets.tidy keyed34
  have t2 := h.vars.tidy keyed34
  refine ⟨h1, h2, fun kl => ?_, fun kl => ?_, ?_⟩
  · by_cases e : kl = es[j].kl
    · subst e
      exact ⟨v, atKey_put_same t1.isMap hlit _ _, Stands.same hj hc⟩
    · obtain ⟨u, hu, hs⟩ := h.holds kl
      exact ⟨u, by rw [atKey_put_other e]; exact hu, (hs.kept hk).other hj (fun e' => e e'.symm)⟩
  · by_cases e : kl = es[j].kl
    · subst e
      rw [has_put_same t1.isMap hlit, has_put_same t2.isMap hlit]
    · rw [has_put_other e, has_put_other e]
      exact h.has kl
  · rw [size_put t1, size_put t2, h.has, h.size]

end Go.Proofs.Ybulkbudk
