/-
  WHAT A WALK IS TOLD OF A SLICE THAT CAME IN ('Rd'), out of its reading as data: integers, bools, strings.
-/
import Derived.Test.Qxb6600569aBase
import Derived.ProofKit
import Derived.OpenShut
import Derived.SliceStrings
import Derived.Deep.Slices
namespace Go.Proofs.Qxb6600569a
open Go.ChangeShapes Go.WideShapes Go.ChangeAt Go.RowKit Go.Deep
set_option linter.unusedVariables false

/-- The bool in a cell. -/
def boolIn : Value → Bool | .bool b => b | _ => false

section
variable {H : Type} {enc : TypeId × Value → H} {P : Program} {w : World} {base : Nat} {held : Bool}

theorem rd_ints {t e : TypeId} {k : IntKind} {fuel : Nat} {a : Option Addr} {len cap : Nat} {x : DataW H × List MemPlace} (ht : P.underlying t = some (.slice e)) (he : P.underlying e = some (.int k)) (hc : P.cellsOf e = 1)
    (h : DataW.trod enc P w base (fun _ => true) held fuel t [.slice a len cap] = some x) : (a = none → len = 0 ∧ cap = 0) ∧ len ≤ maxLen ∧ ∃ z : Nat → Int, (∀ j, (Lit.int k (z j)).wf = true) ∧ Rd w a len (fun j => .int k (z j)) := by
  rcases open_ints ht he hc h with ⟨hcs, _⟩ | ⟨y, l, c, zs, hcs, _, hl, hm, hz, _, hcell, hwz⟩
  · simp at hcs
    obtain ⟨rfl, rfl, rfl⟩ := hcs
    exact ⟨fun _ => ⟨rfl, rfl⟩, Nat.zero_le _, fun _ => 0, fun _ => by cases k <;> rfl, fun j hj => by omega⟩
  · simp at hcs
    obtain ⟨rfl, rfl, rfl⟩ := hcs
    simp only [if_true] at hz
    refine ⟨fun e => by simp at e, by omega, fun j => zs.getD j 0, fun j => ?_, Rd.of_add fun j hj => hcell j (by omega)⟩
    by_cases hj : j < zs.length
    · exact hwz _ (by simp [List.getD, hj])
    · simp only [List.getD, List.getElem?_eq_none (Nat.le_of_not_lt hj), Option.getD_none]
      cases k <;> rfl

theorem rd_bools {t e : TypeId} {fuel : Nat} {a : Option Addr} {len cap : Nat} {x : DataW H × List MemPlace} (ht : P.underlying t = some (.slice e)) (he : P.underlying e = some .bool) (hc : P.cellsOf e = 1)
    (h : DataW.trod enc P w base (fun _ => true) held fuel t [.slice a len cap] = some x) : (a = none → len = 0 ∧ cap = 0) ∧ len ≤ maxLen ∧ ∃ z : Nat → Bool, Rd w a len (fun j => .bool (z j)) := by
  rcases open_slice1 ht hc h with ⟨hcs, _⟩ | ⟨y, l, c, m, n, V, D, Pl, hcs, _, hl, hm, hmm, _, hV⟩
  · simp at hcs
    obtain ⟨rfl, rfl, rfl⟩ := hcs
    exact ⟨fun _ => ⟨rfl, rfl⟩, Nat.zero_le _, fun _ => false, fun j hj => by omega⟩
  · simp at hcs
    obtain ⟨rfl, rfl, rfl⟩ := hcs
    simp only [if_true] at hmm
    refine ⟨fun e => by simp at e, by omega, fun j => boolIn (V j), Rd.of_add fun j hj => ?_⟩
    obtain ⟨h1, h2⟩ := hV j (by omega)
    obtain ⟨b, h3, _⟩ := DataW.trod_bool he h2
    simp only [List.cons.injEq, and_true] at h3
    rw [h1]
    show some (V j) = some (.bool (boolIn (V j)))
    rw [h3]
    rfl

theorem rd_strs {t e : TypeId} {fuel : Nat} {a : Option Addr} {len cap : Nat} {x : DataW H × List MemPlace} (ht : P.underlying t = some (.slice e)) (he : P.underlying e = some .string) (hc : P.cellsOf e = 1)
    (h : DataW.trod enc P w base (fun _ => true) held fuel t [.slice a len cap] = some x) : (a = none → len = 0 ∧ cap = 0) ∧ len ≤ maxLen ∧ ∃ z : Nat → ByteArray, Rd w a len (fun j => .string (z j)) := by
  rcases open_strings ht he hc h with ⟨hcs, _⟩ | ⟨y, l, c, ss, hcs, _, hl, hm, hz, _, hcell, _⟩
  · simp at hcs
    obtain ⟨rfl, rfl, rfl⟩ := hcs
    exact ⟨fun _ => ⟨rfl, rfl⟩, Nat.zero_le _, fun _ => ByteArray.empty, fun j hj => by omega⟩
  · simp at hcs
    obtain ⟨rfl, rfl, rfl⟩ := hcs
    simp only [if_true] at hz
    exact ⟨fun e => by simp at e, by omega, fun j => ss.getD j ByteArray.empty, Rd.of_add fun j hj => hcell j (by omega)⟩
end
end Go.Proofs.Qxb6600569a
