/-
  A FAMILY OF ROWS WHOSE HEADERS MOVE INTO A NEW, LONGER BLOCK; 'append' of no row.
-/
import Derived.Test.Qxb6600569aGrowRows
namespace Go.Proofs.Qxb6600569a
open Go.RowKit
set_option linter.unusedVariables false

theorem Fam.moved {w : World} {base b T E size n M : Nat} {R : Nat → Value} {N : Nat → Nat} {C : Nat → List Value} (h : Fam w base b T E size n R N C) (hbase : base ≤ w.heap.size) (cs : Array Value)
    (hrow : (w.drew.alloc (.cells cs T)).rowIs w.heap.size T M (fun i => if i < n then R i else .slice none 0 0)) :
    Fam (w.drew.alloc (.cells cs T)) base w.heap.size T E size M (fun i => if i < n then R i else .slice none 0 0) (fun i => if i < n then N i else 0) (fun i => if i < n then C i else []) := by
  refine ⟨hrow, hbase, fun u hu => ?_, fun u u' g hu hu' h1 h2 => ?_, fun u hu he => ?_⟩
  · by_cases e : u < n
    · simp only [e, if_true]
      exact (h.drew.alloc _).own u e
    · simp only [e, if_false]
      exact World.ownsRow_nil _ _ _ _
  · by_cases e : u < n
    · by_cases e' : u' < n
      · simp only [e, e', if_true] at h1 h2
        exact h.apart u u' g e e' h1 h2
      · simp [e', Value.ownBlock] at h2
    · simp [e, Value.ownBlock] at h1
  · by_cases e : u < n
    · simp only [e, if_true] at he
      have := ((h.own u e).lt _ he).2
      omega
    · simp [e, Value.ownBlock] at he

theorem grow_none (w : World) (a : Addr) (N : Nat) (ty : TypeId) : (Builtin.append_ #[54, 3] ty #[.slice (some a) N N, .int .i64 0]).run Try.prog w = .ok (.slice (some a) N N) w := by
  obtain ⟨i, hi, hz0, hz1, hz2⟩ := info_parts Try.info60
  have hw : IntKind.i64.wrap 0 = 0 := by rw [IntKind.wrap_i64]; omega
  simp [Builtin.append_, run_underlying Try.underlying54, run_underlying Try.underlying3, sizeOf, typeInfo, zeroValue, hi, hz0, hz2, asInt, asIntOf, hw, storeCells]

end Go.Proofs.Qxb6600569a
