/- LawS3533ALookup: a round's worlds. -/
import Derived.Test.YbulkbudkLk3
import Derived.ProofKit
namespace Go.Proofs.Ybulkbudk
open Go.RowKit Go.Maps
theorem hid' {p : Prop} (h : p) : Hid p := h

theorem RowAt.below {w w' : World} {t : Ent} (h : RowAt w t) (hb : Below w.heap.size w w') : RowAt w' t := fun p hp j u hu => by
  have k := h p hp j u hu
  rw [hb.cell (World.block_lt_of_cell? _ _ k)]
  exact k

theorem clone_any (t : Ent) (B : Nat) (w : World) (hB : B ≤ w.heap.size) (hf : t.Fits) (hr : RowAt w t) :
    Calls Yba.prog 7 #[.slice (addrOf t.spot) t.ids.length t.cap] w fun e w' => ∃ v, e = .returned v ∧ Clone w' B v t ∧ Below w.heap.size w w' := by
  cases hsp : t.spot with
  | none =>
    obtain ⟨h1, h2⟩ := hf.nil hsp
    rw [h1, h2]
    refine (clone_nil w).mono ?_
    rintro e w' ⟨rfl, rfl⟩
    exact ⟨_, rfl, .inl ⟨hsp, rfl⟩, Below.refl _ _⟩
  | some p =>
    refine (clone_some p t.cap t.ids w hf.big (hr p hsp)).mono ?_
    rintro e w' ⟨rfl, h1, h2⟩
    exact ⟨_, rfl, .inr ⟨⟨p, hsp⟩, _, hB, rfl, h1⟩, h2⟩

/-- A world inside a round: both maps, the round's two boxes, the leftOut's two cells. -/
structure Mid (w wr W : World) (bs bv bl B : Nat) (Ds Dv : DataW Value) (ks kv : Nat) (t : Ent) : Prop where
  sets : W.ownsMap Yba.prog 34 R bs ks Ds
  vars : W.ownsMap Yba.prog 34 R bv kv Dv
  bel : Below w.heap.size w W
  big : wr.heap.size + 2 ≤ W.heap.size
  e0 : W.cell? ⟨wr.heap.size, 0, none⟩ = some (.string t.file)
  e3 : W.cell? ⟨wr.heap.size, 3, none⟩ = some (.slice (addrOf t.spot) t.ids.length t.cap)
  p0 : W.cell? ⟨wr.heap.size + 1, 0, none⟩ = some (.string t.file)
  p1 : W.cell? ⟨wr.heap.size + 1, 1, none⟩ = some (.int .i64 t.line)
  p2 : W.cell? ⟨wr.heap.size + 1, 2, none⟩ = some (.int .i64 t.col)
  l1 : W.cell? ⟨bl, 1, none⟩ = some (.map (some bv))
  l2 : W.cell? ⟨bl, 2, none⟩ = some (.map (some bs))
  old : ∀ g, B ≤ g → g < wr.heap.size → W.heap[g]? = wr.heap[g]?
  hs : w.heap.size ≤ bs ∧ bs < bv ∧ bv < bl ∧ bl < B ∧ B ≤ wr.heap.size

theorem Mid.below {w wr W W' : World} {bs bv bl B : Nat} {Ds Dv : DataW Value} {ks kv : Nat} {t : Ent} (h : Mid w wr W bs bv bl B Ds Dv ks kv t) (hb : Below W.heap.size W W') : Mid w wr W' bs bv bl B Ds Dv ks kv t := by
  have hbig := h.big
  have hbel := h.bel.size
  have hhs := h.hs
  have k : ∀ {p : Addr} {v : Value}, W.cell? p = some v → W'.cell? p = some v := fun {p v} hp => by rw [hb.cell (World.block_lt_of_cell? _ _ hp)]; exact hp
  have g : W.grownBy W' none := ⟨hb.os, hb.tape, hb.output, hb.size, fun i hi _ => hb.block i hi⟩
  exact ⟨h.sets.kept g (by simp), h.vars.kept g (by simp), h.bel.trans (hb.mono (by omega)), Nat.le_trans h.big hb.size, k h.e0, k h.e3, k h.p0, k h.p1, k h.p2, k h.l1, k h.l2, fun g h1 h2 => (hb.block g (by omega)).trans (h.old g h1 h2), h.hs⟩

theorem Mid.kept {w wr W W' : World} {bs bv bl B : Nat} {Ds Dv : DataW Value} {ks kv : Nat} {t : Ent} (h : Mid w wr W bs bv bl B Ds Dv ks kv t) {row : Nat} (hg : W.grownBy W' (some row)) (hrow : row = bs ∨ row = bv) :
    Below w.heap.size w W' ∧ wr.heap.size + 2 ≤ W'.heap.size ∧ (∀ {p : Addr} {v : Value}, p.block ≠ row → W.cell? p = some v → W'.cell? p = some v) ∧ (∀ g, B ≤ g → g < W.heap.size → W'.heap[g]? = W.heap[g]?) := by
  have hhs := h.hs
  have hbig := h.big
  have hsz := h.bel.size
  refine ⟨h.bel.grown hg (by omega) (fun k hk => by cases hk; omega), Nat.le_trans h.big hg.size, fun {p v} hp hc => ?_, fun g h1 h2 => hg.block g h2 (fun e => by cases e; omega)⟩
  rw [World.cell?_of_block (w := W) (hg.block p.block (World.block_lt_of_cell? _ _ hc) (fun e => hp (by cases e; rfl)))]
  exact hc

/-- The store into 'sets'. -/
theorem Mid.set {w wr W : World} {bs bv bl B : Nat} {Ds Dv : DataW Value} {ks kv : Nat} {t : Ent} (h : Mid w wr W bs bv bl B Ds Dv ks kv t) (hf : t.Fits) (hk : ks < 2000) (v : Value) :
    ∃ W', (Instr.mapUpdate 24 (.map (some bs)) (.agg #[.string t.file, .int .i64 t.line, .int .i64 t.col]) v).run Yba.prog W = .ok () W' ∧ Mid w wr W' bs bv bl B (Ds.put t.kl (.held v)) Dv (ks + 1) kv t ∧ (∀ g, B ≤ g → g < W.heap.size → W'.heap[g]? = W.heap[g]?) ∧ W.heap.size ≤ W'.heap.size := by
  obtain ⟨W', hrun, hown, hg⟩ := h.sets.update (d := .held v) (ps := []) keyed34 Yba.underlying24 (by unfold maxLen; omega) (keyOf_mk _ _ _ hf.file hf.line hf.col) rfl
  obtain ⟨q1, q2, q3, q4⟩ := h.kept hg (.inl rfl)
  have hhs := h.hs
  have hbig := h.big
  refine ⟨W', hrun, ⟨hown, h.vars.kept hg (fun e => by cases e; omega), q1, q2, q3 (by show wr.heap.size ≠ bs; omega) h.e0, q3 (by show wr.heap.size ≠ bs; omega) h.e3, q3 (by show wr.heap.size + 1 ≠ bs; omega) h.p0, q3 (by show wr.heap.size + 1 ≠ bs; omega) h.p1, q3 (by show wr.heap.size + 1 ≠ bs; omega) h.p2, q3 (by show bl ≠ bs; omega) h.l1, q3 (by show bl ≠ bs; omega) h.l2, fun g h1 h2 => (q4 g h1 (by omega)).trans (h.old g h1 h2), h.hs⟩, q4, hg.size⟩

/-- The store into 'variables'. -/
theorem Mid.var {w wr W : World} {bs bv bl B : Nat} {Ds Dv : DataW Value} {ks kv : Nat} {t : Ent} (h : Mid w wr W bs bv bl B Ds Dv ks kv t) (hf : t.Fits) (hk : kv < 2000) (v : Value) :
    ∃ W', (Instr.mapUpdate 24 (.map (some bv)) (.agg #[.string t.file, .int .i64 t.line, .int .i64 t.col]) v).run Yba.prog W = .ok () W' ∧ Mid w wr W' bs bv bl B Ds (Dv.put t.kl (.held v)) ks (kv + 1) t ∧ (∀ g, B ≤ g → g < W.heap.size → W'.heap[g]? = W.heap[g]?) ∧ W.heap.size ≤ W'.heap.size := by
  obtain ⟨W', hrun, hown, hg⟩ := h.vars.update (d := .held v) (ps := []) keyed34 Yba.underlying24 (by unfold maxLen; omega) (keyOf_mk _ _ _ hf.file hf.line hf.col) rfl
  obtain ⟨q1, q2, q3, q4⟩ := h.kept hg (.inr rfl)
  have hhs := h.hs
  have hbig := h.big
  refine ⟨W', hrun, ⟨h.sets.kept hg (fun e => by cases e; omega), hown, q1, q2, q3 (by show wr.heap.size ≠ bv; omega) h.e0, q3 (by show wr.heap.size ≠ bv; omega) h.e3, q3 (by show wr.heap.size + 1 ≠ bv; omega) h.p0, q3 (by show wr.heap.size + 1 ≠ bv; omega) h.p1, q3 (by show wr.heap.size + 1 ≠ bv; omega) h.p2, q3 (by show bl ≠ bv; omega) h.l1, q3 (by show bl ≠ bv; omega) h.l2, fun g h1 h2 => (q4 g h1 (by omega)).trans (h.old g h1 h2), h.hs⟩, q4, hg.size⟩

/-- A world at a round's head. -/
structure Head (w wr : World) (bs bv bl B : Nat) (es : List Ent) (k : Nat) : Prop where
  both : ∃ Ds Dv, Both wr B bs bv es k Ds Dv
  bel : Below w.heap.size w wr
  l1 : wr.cell? ⟨bl, 1, none⟩ = some (.map (some bv))
  l2 : wr.cell? ⟨bl, 2, none⟩ = some (.map (some bs))
  hs : w.heap.size ≤ bs ∧ bs < bv ∧ bv < bl ∧ bl < B ∧ B ≤ wr.heap.size

/-- Behind the round's two boxes. -/
theorem Mid.enter {w wr : World} {bs bv bl B : Nat} {Ds Dv : DataW Value} {es : List Ent} {k : Nat} {t : Ent} (hb : Both wr B bs bv es k Ds Dv) (hbel : Below w.heap.size w wr) (l1 : wr.cell? ⟨bl, 1, none⟩ = some (.map (some bv))) (l2 : wr.cell? ⟨bl, 2, none⟩ = some (.map (some bs)))
    (hs : w.heap.size ≤ bs ∧ bs < bv ∧ bv < bl ∧ bl < B ∧ B ≤ wr.heap.size) :
    Mid w wr ((wr.alloc (.cells #[.string t.file, .int .i64 t.line, .int .i64 t.col, .slice (addrOf t.spot) t.ids.length t.cap] 32)).alloc (.cells #[.string t.file, .int .i64 t.line, .int .i64 t.col] 34)).drew bs bv bl B Ds Dv k k t := by
  have hsz := hbel.size
  refine ⟨((hb.sets.alloc _).alloc _).drew, ((hb.vars.alloc _).alloc _).drew, ((hbel.alloc (by omega) _).alloc (by simp; omega) _).drew, by simp [World.drew], ?_, ?_, ?_, ?_, ?_, ?_, ?_, ?_, hs⟩
  · simp [go_sem]
  · simp [go_sem]
  · simp [go_sem]
  · simp [go_sem]
  · simp [go_sem]
  · exact cell_al (cell_al l1 _) _
  · exact cell_al (cell_al l2 _) _
  · intro g h1 h2
    show ((wr.alloc _).alloc _).heap[g]? = _
    rw [Below.heap_alloc _ _ _ (by simp; omega), Below.heap_alloc _ _ _ h2]

/-- The round's end. -/
theorem Mid.head {w wr W : World} {bs bv bl B : Nat} {Ds Dv : DataW Value} {es : List Ent} {k : Nat} {t : Ent} {v u : Value} (hb : Both wr B bs bv es k Ds Dv) (hk : k < es.length) (ht : t = es[k]) (hf : t.Fits)
    (h : Mid w wr W bs bv bl B (Ds.put t.kl (.held v)) (Dv.put t.kl (.held u)) (k + 1) (k + 1) t) (hc : Clone W B v t) : Head w W bs bv bl B es (k + 1) := by
  subst ht
  have h1 := h.hs
  have h2 := h.big
  exact ⟨⟨_, _, hb.next hk hf v (.held u) h.sets h.vars h.old hc⟩, h.bel, h.l1, h.l2, h1.1, h1.2.1, h1.2.2.1, h1.2.2.2.1, by omega⟩

theorem Head.start (w : World) (es : List Ent) (bv bl : Nat) (hbv : bv = w.heap.size + 1) (hbl : bl = w.heap.size + 1 + 1 + 1 + 1) :
    Head w (((((w.alloc (Obj.map #[] 0)).alloc (Obj.map #[] 0)).alloc (Obj.map #[] 0)).alloc (Obj.map #[] 0)).alloc (Obj.cells #[.pointer none, .map (some bv), .map (some w.heap.size), .map (some (bv + 1)), .map (some (bv + 1 + 1))] 29)) w.heap.size bv bl (w.heap.size + 5) es 0 := by
  have q := World.ownsMap_made w Yba.prog 34 R
  have q2 := World.ownsMap_made (w.alloc (Obj.map #[] 0)) Yba.prog 34 R
  have e : (w.alloc (Obj.map #[] 0)).heap.size = bv := by simp [hbv]
  rw [e] at q2
  refine ⟨⟨_, _, Both.start _ _ _ _ _ ((((q.alloc _).alloc _).alloc _).alloc _) (((q2.alloc _).alloc _).alloc _)⟩, (((((Below.refl _ _).alloc (by simp) _).alloc (by simp; try omega) _).alloc (by simp; try omega) _).alloc (by simp; try omega) _).alloc (by simp; try omega) _, ?_, ?_, by omega, by omega, by omega, by omega, by simp⟩
  · subst hbl; simp [go_sem]
  · subst hbl; simp [go_sem]

end Go.Proofs.Ybulkbudk
