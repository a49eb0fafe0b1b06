/-
  REAL TIME: a slice of int64 that the call has built, between append's words (ownsRow) and the shelf's (Holds, putRow, grow).
-/
import Derived.Test.Qxb6600569aBase
import Derived.Test.Qxb6600569aRtPlain
import Derived.Sort.OwnSorted
namespace Go.Proofs.Qxb6600569a
open Go.RowKit Go.Sort
set_option linter.unusedVariables false

abbrev I64 : Int → Value := Value.int .i64

theorem holds_ints {w : World} {g : Nat} {cur : Array Value} {e : TypeId} {zs : List Int} (hb : w.heap[g]? = some (.cells cur e (0, 0))) (ht : cur.toList.take zs.length = zs.map I64) : Holds (Value.int .i64) w g 0 zs.toArray := by
  intro j hj
  have hj' : j < zs.length := by simpa using hj
  refine ⟨?_, by simp [World.frozen?, hb]⟩
  have h1 : (cur.toList.take zs.length)[j]? = (zs.map I64)[j]? := by rw [ht]
  rw [List.getElem?_take_of_lt hj'] at h1
  simp only [World.cell?, hb, Nat.zero_add]
  simp only [Option.isSome_none, Bool.false_eq_true, if_false]
  rw [← Array.getElem?_toList, h1]
  simp [hj']

theorem heap_put {w : World} {g n : Nat} {os : Array Obj} {cur : Array Value} {e : TypeId} {fr : Nat × Nat} (d : Array Int) (hb : w.heap[g]? = some (.cells cur e fr)) :
    (grow (putRow (Value.int .i64) (Sort.ahead w n) g 0 d) os).heap[g]? = some (.cells (putCells (Value.int .i64) 0 d cur) e fr) := by
  have hg : g < w.heap.size := (Array.getElem?_eq_some_iff.1 hb).1
  rw [heap_grow_old _ _ (by simpa using hg)]
  simp [putRow, mapBlock, Sort.ahead, Array.getElem?_modify, hb, onCells]

theorem grownBy_put {w : World} {g n : Nat} {os : Array Obj} (d : Array Int) : w.grownBy (grow (putRow (Value.int .i64) (Sort.ahead w n) g 0 d) os) (some g) := by
  refine ⟨rfl, rfl, rfl, by simp, fun k hk hne => ?_⟩
  rw [heap_grow_old _ _ (by simpa using hk)]
  have : g ≠ k := fun e => hne (by rw [e])
  simp [putRow, mapBlock, Sort.ahead, Array.getElem?_modify, this]

theorem put_get (cur : Array Value) (ts : List Int) (h : ts.length ≤ cur.size) {j : Nat} (hj : j < ts.length) : (putCells (Value.int .i64) 0 ts.toArray cur)[j]? = some (I64 ts[j]) := by
  simp [putCells, hj, show j < cur.size by omega]

theorem take_put (cur : Array Value) (ts : List Int) (h : ts.length ≤ cur.size) : (putCells (Value.int .i64) 0 ts.toArray cur).toList.take ts.length = ts.map I64 := by
  apply List.ext_getElem?
  intro j
  by_cases hj : j < ts.length
  · rw [List.getElem?_take_of_lt hj, Array.getElem?_toList, put_get cur ts h hj]
    simp [hj]
  · rw [List.getElem?_take_eq_none (by omega), List.getElem?_eq_none (by simp; omega)]

theorem ownsRow_put {w : World} {base g cap n : Nat} {e : TypeId} {os : Array Obj} {cur : Array Value} {zs ts : List Int} (hl : ts.length = zs.length) (hbase : base ≤ g) (hb : w.heap[g]? = some (.cells cur e (0, 0)))
    (h1 : zs.length ≤ cap) (h2 : cap ≤ maxLen) (h3 : cur.size = cap * 1) :
    (grow (putRow (Value.int .i64) (Sort.ahead w n) g 0 ts.toArray) os).ownsRow base e 1 (.slice (some ⟨g, 0, none⟩) zs.length cap) zs.length (ts.map I64) :=
  ⟨by simp [hl], .inr ⟨g, cap, _, rfl, hbase, heap_put _ hb, h1, h2, by simp [putCells, h3], by rw [Nat.mul_one, ← hl]; exact take_put cur ts (by omega)⟩⟩

/-- THE TIMES IN MEMORY: a slice, read only, of the elements L. -/
structure TimesIs (w : World) (v : Value) (L : List Int) : Prop where
  out : ∃ a cap, v = .slice a L.length cap ∧ ∀ j (h : j < L.length), ∃ g, a = some ⟨g, 0, none⟩ ∧ w.cell? ⟨g, j, none⟩ = some (I64 L[j])

end Go.Proofs.Qxb6600569a
