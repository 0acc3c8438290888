/- LawS3533ALookup: entries, keys, the maps' readings. -/
import Derived.Test.YbulkbudkShelf
import Derived.Maps.OwnSet
import Derived.Maps.Views
import Derived.DeepKeys4
import Derived.Deep.OwnRows
import Derived.Laws.CopyOwn
namespace Go.Proofs.Ybulkbudk
open Go.RowKit Go.Maps

/-- An entry as the caller hands it in: where its ids lie (nothing: nil), their capacity, the ids. -/
structure Ent where
  file : ByteArray
  line : Int
  col : Int
  spot : Option Addr
  cap : Nat
  ids : List ByteArray

def addrOf (p : Option Addr) : Option Addr := p
/-- The value of an entry's ids. -/
def Ent.idsV (e : Ent) : Value := .slice (addrOf e.spot) e.ids.length e.cap
def Ent.key (e : Ent) : Value := .agg #[.string e.file, .int .i64 e.line, .int .i64 e.col]

def kOf (f : ByteArray) (l c : Int) : Lit := .string (keyBytes [.string f.data.toList, .int .i64 l, .int .i64 c])
def Ent.kl (e : Ent) : Lit := kOf e.file e.line e.col

structure Ent.Fits (e : Ent) : Prop where
  file : e.file.size ≤ maxLen
  line : (Lit.int .i64 e.line).wf = true
  col : (Lit.int .i64 e.col).wf = true
  big : e.ids.length ≤ 8796093022207
  nil : e.spot = none → e.ids = [] ∧ e.cap = 0

theorem laid : laidOutB Yba.prog = true := by kernel_rfl
theorem ck34 : Yba.prog.cellsOf 34 = 3 := by kernel_rfl
theorem ck9 : Yba.prog.cellsOf 9 = 1 := by kernel_rfl
theorem ck3 : Yba.prog.cellsOf 3 = 1 := by kernel_rfl
theorem keyed34 : Keyed Yba.prog 34 := Keyed.of_law (deep_law_laid laid (m := 4) (by omega) (of_decide_eq_true (by kernel_rfl)) (by kernel_rfl) (by kernel_rfl))

theorem keyType34 : Yba.prog.keyType 34 = true := by kernel_rfl
theorem keyLits34 (n : Nat) (f : ByteArray) (l c : Int) (hf : f.size ≤ maxLen) (hl : (Lit.int .i64 l).wf = true) (hc : (Lit.int .i64 c).wf = true) :
    Yba.prog.keyLits (n + 2) 34 [.string f, .int .i64 l, .int .i64 c] = some [.string f.data.toList, .int .i64 l, .int .i64 c] := by
  simp [Program.keyLits, Yba.underlying34, Yba.underlying9, Yba.underlying3, ck34, ck9, ck3, hf, hl, hc]

theorem keyOf_mk (f : ByteArray) (l c : Int) (hf : f.size ≤ maxLen) (hl : (Lit.int .i64 l).wf = true) (hc : (Lit.int .i64 c).wf = true) :
    keyOf Yba.prog 34 (.agg #[.string f, .int .i64 l, .int .i64 c]) = some (kOf f l c) := by
  have h := keyLits34 138 f l c hf hl hc
  simp [keyOf, Yba.underlying34, keyType34, Value.formed, ck34, Value.cells, h, kOf]

theorem kOf_inj {f f' : ByteArray} {l c l' c' : Int} (hf : f.size ≤ maxLen) (hl : (Lit.int .i64 l).wf = true) (hc : (Lit.int .i64 c).wf = true) (hf' : f'.size ≤ maxLen) (hl' : (Lit.int .i64 l').wf = true) (hc' : (Lit.int .i64 c').wf = true)
    (h : kOf f l c = kOf f' l' c') : f = f' ∧ l = l' ∧ c = c' := by
  have h1 := keyOf_mk f l c hf hl hc
  rw [h] at h1
  have := keyed34.inj h1 (keyOf_mk f' l' c' hf' hl' hc')
  simpa using this

/-- How an element of the maps reads: as itself. -/
def R (v : Value) : Option (DataW Value × List MemPlace) := some (.held v, [])

end Go.Proofs.Ybulkbudk
