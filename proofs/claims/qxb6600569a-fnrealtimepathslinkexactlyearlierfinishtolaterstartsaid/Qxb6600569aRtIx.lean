/-
  'ZZNewIndex', 'ZZEdgeTo', 'ZZEdgeKind', the bounds on lengths.
-/
import Derived.Test.Qxb6600569aBase
namespace Go.Proofs.Qxb6600569a
open Go.RowKit
set_option linter.unusedVariables false

theorem newIndex (b n c : Nat) (w : World) : Calls Try.prog 25 #[.slice (some ⟨b, 0, none⟩) n c] w fun e w' => e = .returned (.pointer (some ⟨w.heap.size, 0, none⟩)) ∧ w' = w.alloc (.cells #[.slice (some ⟨b, 0, none⟩) n c, .map none, .map none, .slice none 0 0] 80) := by
  go_enter Try.func25, Try.ntmps25
  go_wp2
  go_ret
  exact ⟨rfl, rfl⟩

theorem edgeTo (t k : Int) (w : World) : Calls Try.prog 27 #[.agg #[.int .i64 t, .int .i8 k, .string ⟨#[]⟩]] w fun e w' => e = .returned (.int .i64 t) ∧ w' = w.alloc (.cells #[.int .i64 t, .int .i8 k, .string ⟨#[]⟩] 63) := by
  go_enter Try.func27, Try.ntmps27
  go_wp2
  go_ret
  exact ⟨rfl, rfl⟩

theorem edgeKind (t k : Int) (w : World) : Calls Try.prog 28 #[.agg #[.int .i64 t, .int .i8 k, .string ⟨#[]⟩]] w fun e w' => e = .returned (.int .i8 k) ∧ w' = w.alloc (.cells #[.int .i64 t, .int .i8 k, .string ⟨#[]⟩] 63) := by
  go_enter Try.func28, Try.ntmps28
  go_wp2
  go_ret
  exact ⟨rfl, rfl⟩

theorem bytes_nodes (a1 a2 a3 : Option Addr) (l1 c1 l2 c2 l3 c3 : Nat) (w : World) (h1 : l1 ≤ maxLen) (h2 : l2 ≤ maxLen) (h3 : l3 ≤ maxLen) :
    Calls Try.prog 29 #[.slice a1 l1 c1, .slice a2 l2 c2, .slice a3 l3 c3] w fun e w' => e = .returned (.bool (decide (l1 + l2 + l3 ≤ 1048576))) ∧ w' = w := by
  unfold maxLen at h1 h2 h3
  go_enter Try.func29, Try.ntmps29
  go_wp2
  all_goals (go_ret; exact ⟨ret_bool (by simp; omega), rfl⟩)

theorem bytes_paths (a1 a2 a3 a4 a5 : Option Addr) (l1 c1 l2 c2 l3 c3 l4 c4 l5 c5 : Nat) (w : World) (h1 : l1 ≤ maxLen) (h2 : l2 ≤ maxLen) (h3 : l3 ≤ maxLen) (h4 : l4 ≤ maxLen) (h5 : l5 ≤ maxLen) :
    Calls Try.prog 19 #[.slice a1 l1 c1, .slice a2 l2 c2, .slice a3 l3 c3, .slice a4 l4 c4, .slice a5 l5 c5] w fun e w' => e = .returned (.bool (decide (l1 + l2 + l3 + l4 + l5 ≤ 1048576))) ∧ w' = w := by
  unfold maxLen at h1 h2 h3 h4 h5
  go_enter Try.func19, Try.ntmps19
  go_wp2
  all_goals (go_ret; exact ⟨ret_bool (by simp; omega), rfl⟩)

end Go.Proofs.Qxb6600569a
