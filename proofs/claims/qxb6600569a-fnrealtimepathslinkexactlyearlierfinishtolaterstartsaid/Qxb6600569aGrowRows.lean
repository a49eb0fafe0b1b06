/-
  'append(g, make([][]edge, k)...)': the rows' headers grow by k nil ones, in a new block.
-/
import Derived.Test.Qxb6600569aEdges
import Derived.Lib.AppendZeros
namespace Go.Proofs.Qxb6600569a
open Go.RowKit
set_option linter.unusedVariables false

theorem zeroCells_nil (m j : Nat) (h : j < m) : (Builtin.zeroCells (Value.slice none 0 0).cells m)[j]? = some (.slice none 0 0) := by
  have hs : (Value.slice none 0 0).cells = #[.slice none 0 0] := rfl
  rw [hs]
  simp [Builtin.zeroCells, Nat.mod_one, h]

theorem zeroCells_size (m : Nat) : (Builtin.zeroCells (Value.slice none 0 0).cells m).size = m := by
  have hs : (Value.slice none 0 0).cells = #[.slice none 0 0] := rfl
  rw [hs]
  simp [Builtin.zeroCells]

theorem grow_rows (w : World) (b N k : Nat) (R : Nat → Value) (ty : TypeId) (hrow : w.rowIs b 60 N R) (hk : 1 ≤ k) (hb : N + k ≤ 4294967296) :
    ∃ cap, N + k ≤ cap ∧ ∃ cs : Array Value, (Builtin.append_ #[54, 3] ty #[.slice (some ⟨b, 0, none⟩) N N, .int .i64 k]).run Try.prog w = .ok (.slice (some ⟨w.heap.size, 0, none⟩) (N + k) cap) (w.drew.alloc (.cells cs 60)) ∧ (w.drew.alloc (.cells cs 60)).rowIs w.heap.size 60 cap (fun i => if i < N then R i else .slice none 0 0) := by
  obtain ⟨i, hi, hz0, hz1, hz2⟩ := info_parts Try.info60
  have hrow' := hrow
  obtain ⟨olds, hbl, hon, hoc⟩ := hrow
  have hfo := run_firstCells_some (P := Try.prog) w.drew 1 N ⟨b, 0, none⟩ N N olds.toList (by simp [hon]) (by
    intro j v hj
    rw [add_lit, Nat.zero_add]
    have hjn : j < N := by
      have := (List.getElem?_eq_some_iff.1 hj).1
      simp at this
      omega
    have h1 := hoc j hjn
    rw [Array.getElem?_toList] at hj
    rw [hj] at h1
    rw [h1]
    exact hrow'.cell hjn)
  have hw : IntKind.i64.wrap (k : Int) = k := by rw [IntKind.wrap_i64]; omega
  have hneg : ¬ ((k : Int) < 0) := by omega
  have hk0 : k ≠ 0 := by omega
  have hn : ¬ (N + k ≤ N) := by omega
  have h63' : ¬ (9223372036854775807 < ((N : Int) + (k : Int))) := by omega
  have hcap := nextslicecap_le (need := N + k) (old := N) (by omega)
  have h48' : ¬ (281474976710656 < Builtin.nextslicecap (N + k) N * 24) := by omega
  have h48i : ¬ (281474976710656 < (k : Int) * 24) := by omega
  have hge := grownCap_ge w (N + k) N 60
  refine ⟨grownCap w (N + k) N 60, hge, olds ++ (Builtin.zeroCells (Value.slice none 0 0).cells k ++ Builtin.zeroCells (Value.slice none 0 0).cells (grownCap w (N + k) N 60 - (N + k))), ?_, ?_⟩
  · simp [Builtin.append_, run_underlying Try.underlying54, run_underlying Try.underlying3, sizeOf, typeInfo, zeroValue, hi, hz0, hz1, hz2, asInt, asIntOf, hw, hk0, hneg, hn, h63', h48', h48i, Question.forced, hfo, newRow, grownCap]
  · have hsz : (olds ++ (Builtin.zeroCells (Value.slice none 0 0).cells k ++ Builtin.zeroCells (Value.slice none 0 0).cells (grownCap w (N + k) N 60 - (N + k)))).size = grownCap w (N + k) N 60 := by
      rw [Array.size_append, Array.size_append, zeroCells_size, zeroCells_size, hon]; omega
    have := World.rowIs_alloc w.drew (olds ++ (Builtin.zeroCells (Value.slice none 0 0).cells k ++ Builtin.zeroCells (Value.slice none 0 0).cells (grownCap w (N + k) N 60 - (N + k)))) 60 (fun i => if i < N then R i else .slice none 0 0) (by
      intro j hj
      rw [hsz] at hj
      by_cases h1 : j < N
      · rw [Array.getElem?_append_left (by omega), hoc j h1, if_pos h1]
      · rw [Array.getElem?_append_right (by omega), if_neg h1]
        by_cases h2 : j - N < k
        · rw [Array.getElem?_append_left (by rw [zeroCells_size]; omega), hon, zeroCells_nil _ _ h2]
        · rw [Array.getElem?_append_right (by rw [zeroCells_size]; omega), zeroCells_size, hon, zeroCells_nil _ _ (by omega)])
    rw [hsz] at this
    exact this

end Go.Proofs.Qxb6600569a
