/-
  WHAT A SLICE OF BYTES THAT CAME IN TELLS.
-/
import Derived.Test.Qxb6602671aBase
import Derived.OpenShut
namespace Go.Proofs.Qxb6602671a
open Go.RowKit

theorem addr_of_cell {w : World} {a : Addr} {v : Value} (h : w.cell? (a.add 0) = some v) : a = ⟨a.block, a.off, none⟩ := by
  obtain ⟨b, o, s⟩ := a
  cases s with
  | none => rfl
  | some x =>
    exfalso
    simp only [Addr.add, if_true] at h
    simp only [World.cell?, Option.isSome_some, if_true] at h
    split at h <;> simp at h

theorem add_lit (b o j : Nat) : (⟨b, o, none⟩ : Addr).add j = ⟨b, o + j, none⟩ := by unfold Addr.add; split <;> simp_all

theorem byte_of_wf (a : Int) (h : (Lit.int .u8 a).wf = true) : 0 ≤ a ∧ a < 256 := by
  have := bounds_u8 h
  omega

theorem word_of_wf (a : Int) (h : (Lit.int .u32 a).wf = true) : 0 ≤ a ∧ a < 4294967296 := by
  have := bounds_u32 h
  omega

theorem byte_getD (z : List Int) (hw : ∀ n ∈ z, (Lit.int .u8 n).wf = true) (j : Nat) : 0 ≤ z.getD j 0 ∧ z.getD j 0 < 256 := by
  by_cases hj : j < z.length
  · rw [List.getD_eq_getElem?_getD, List.getElem?_eq_getElem hj]
    exact byte_of_wf _ (hw _ (List.getElem_mem hj))
  · rw [List.getD_eq_getElem?_getD, List.getElem?_eq_none (by omega)]
    simp

end Go.Proofs.Qxb6602671a
