/-
  REAL TIME: the rows of the graph as 'withRealTime' builds them. No Go in sight.
-/
import Derived.Test.Qxb6600569aTarjan
import Derived.Test.Qxb6600569aRtPlain
namespace Go.Proofs.Qxb6600569a.Rt
open Tj (upd upd_same upd_other)

/-- The edges of the time node j when i transactions are looked at. -/
def ins (s : Nat → Int) (c : Nat → Bool) (L : List Int) (i j : Nat) : List (Nat × Int) := ((List.range i).filter (fun k => c k && (cnt L (s k) == j))).map (·, 3)

/-- The edge of a transaction to the first time after its finish. -/
def outE (n : Nat) (f : Nat → Int) (c : Nat → Bool) (L : List Int) (v : Nat) : List (Nat × Int) := if c v = true ∧ aft L (f v) < L.length then [(n + aft L (f v), 3)] else []

def rowsTo (n : Nat) (s f : Nat → Int) (c : Nat → Bool) (L : List Int) (G : Nat → List (Nat × Int)) (i : Nat) : Nat → List (Nat × Int) := fun v =>
  if v < n then G v ++ (if v < i then outE n f c L v else []) else ins s c L i (v - n)

variable {n : Nat} {s f : Nat → Int} {c : Nat → Bool} {L : List Int} {G : Nat → List (Nat × Int)}

theorem ins_succ (i j : Nat) : ins s c L (i + 1) j = ins s c L i j ++ (if c i = true ∧ cnt L (s i) = j then [(i, 3)] else []) := by
  unfold ins
  rw [List.range_succ, List.filter_append, List.map_append]
  by_cases h : c i = true ∧ cnt L (s i) = j
  · rw [if_pos h]; simp [h.1, h.2]
  · rw [if_neg h]
    have : (c i && (cnt L (s i) == j)) = false := by
      cases hc : c i
      · rfl
      · simp only [Bool.true_and, beq_eq_false_iff_ne, ne_eq]
        exact fun e => h ⟨hc, e⟩
    simp [this]

theorem rowsTo_zero (v : Nat) : rowsTo n s f c L G 0 v = if v < n then G v else [] := by
  unfold rowsTo
  simp [ins]

theorem rowsTo_skip (i : Nat) (hc : c i = false) : rowsTo n s f c L G (i + 1) = rowsTo n s f c L G i := by
  funext v
  unfold rowsTo
  by_cases hv : v < n
  · rw [if_pos hv, if_pos hv]
    by_cases e : v = i
    · subst e
      rw [if_pos (by omega), if_neg (by omega)]
      unfold outE
      rw [if_neg (by simp [hc])]
    · by_cases e' : v < i
      · rw [if_pos (by omega), if_pos e']
      · rw [if_neg (by omega), if_neg e']
  · rw [if_neg hv, if_neg hv, ins_succ, if_neg (by simp [hc]), List.append_nil]

/-- The rows when the i-th transaction has its place among the times. -/
def rowsMid (n : Nat) (s f : Nat → Int) (c : Nat → Bool) (L : List Int) (G : Nat → List (Nat × Int)) (i : Nat) : Nat → List (Nat × Int) :=
  upd (rowsTo n s f c L G i) (n + cnt L (s i)) (rowsTo n s f c L G i (n + cnt L (s i)) ++ [(i, 3)])

theorem rowsMid_at (i v : Nat) (hc : c i = true) : rowsMid n s f c L G i v = if v < n then G v ++ (if v < i then outE n f c L v else []) else ins s c L (i + 1) (v - n) := by
  unfold rowsMid
  by_cases e : v = n + cnt L (s i)
  · subst e
    rw [upd_same]
    unfold rowsTo
    rw [if_neg (by omega), if_neg (by omega), ins_succ, if_pos ⟨hc, by omega⟩]
  · rw [upd_other _ _ _ _ e]
    unfold rowsTo
    by_cases hv : v < n
    · rw [if_pos hv, if_pos hv]
    · rw [if_neg hv, if_neg hv, ins_succ, if_neg (by intro h; omega), List.append_nil]

theorem rowsTo_none (i : Nat) (hi : i < n) (hc : c i = true) (ha : ¬ aft L (f i) < L.length) : rowsTo n s f c L G (i + 1) = rowsMid n s f c L G i := by
  funext v
  rw [rowsMid_at i v hc]
  unfold rowsTo
  by_cases hv : v < n
  · rw [if_pos hv, if_pos hv]
    by_cases e : v = i
    · subst e
      rw [if_pos (by omega), if_neg (by omega)]
      unfold outE
      rw [if_neg (fun h => ha h.2)]
    · by_cases e' : v < i
      · rw [if_pos (by omega), if_pos e']
      · rw [if_neg (by omega), if_neg e']
  · rw [if_neg hv, if_neg hv]

theorem rowsTo_some (i : Nat) (hi : i < n) (hc : c i = true) (ha : aft L (f i) < L.length) : rowsTo n s f c L G (i + 1) = upd (rowsMid n s f c L G i) i (rowsMid n s f c L G i i ++ [(n + aft L (f i), 3)]) := by
  funext v
  by_cases e : v = i
  · subst e
    rw [upd_same, rowsMid_at v v hc, if_pos hi, if_neg (by omega), List.append_nil]
    unfold rowsTo
    rw [if_pos hi, if_pos (by omega)]
    unfold outE
    rw [if_pos ⟨hc, ha⟩]
  · rw [upd_other _ _ _ _ e, rowsMid_at i v hc]
    unfold rowsTo
    by_cases hv : v < n
    · rw [if_pos hv, if_pos hv]
      by_cases e' : v < i
      · rw [if_pos (by omega), if_pos e']
      · rw [if_neg (by omega), if_neg e']
    · rw [if_neg hv, if_neg hv]

/-- The rows when j links of the chain are laid. -/
def rowsEnd (n : Nat) (s f : Nat → Int) (c : Nat → Bool) (L : List Int) (G : Nat → List (Nat × Int)) (j : Nat) : Nat → List (Nat × Int) := fun v =>
  rowsTo n s f c L G n v ++ (if n ≤ v ∧ v < n + j then [(v + 1, 3)] else [])

theorem rowsEnd_zero : rowsEnd n s f c L G 0 = rowsTo n s f c L G n := by
  funext v
  unfold rowsEnd
  rw [if_neg (by omega), List.append_nil]

theorem rowsEnd_succ (j : Nat) : rowsEnd n s f c L G (j + 1) = upd (rowsEnd n s f c L G j) (n + j) (rowsEnd n s f c L G j (n + j) ++ [(n + j + 1, 3)]) := by
  funext v
  by_cases e : v = n + j
  · subst e
    rw [upd_same]
    unfold rowsEnd
    rw [if_pos (by omega), if_neg (by omega), List.append_nil]
  · rw [upd_other _ _ _ _ e]
    unfold rowsEnd
    by_cases h : n ≤ v ∧ v < n + j
    · rw [if_pos (by omega), if_pos h]
    · rw [if_neg (by omega), if_neg h]

theorem rowsTo_len_old (i v : Nat) (hv : v < n) : (rowsTo n s f c L G i v).length ≤ (G v).length + 1 := by
  unfold rowsTo outE
  rw [if_pos hv, List.length_append]
  split
  · split <;> simp
  · simp

theorem rowsTo_len_time (i j : Nat) : (rowsTo n s f c L G i (n + j)).length ≤ i := by
  unfold rowsTo ins
  rw [if_neg (by omega), List.length_map]
  exact Nat.le_trans (List.length_filter_le _ _) (by simp)

theorem rowsMid_len_old (i v : Nat) (hv : v < n) (hc : c i = true) : (rowsMid n s f c L G i v).length ≤ (G v).length + 1 := by
  rw [rowsMid_at i v hc, if_pos hv, List.length_append]
  unfold outE
  split
  · split <;> simp
  · simp

theorem rowsEnd_len_time (i j : Nat) : (rowsEnd n s f c L G i (n + j)).length ≤ n + 1 := by
  unfold rowsEnd
  rw [List.length_append]
  have := rowsTo_len_time (n := n) (s := s) (f := f) (c := c) (L := L) (G := G) n j
  split <;> simp <;> omega

end Go.Proofs.Qxb6600569a.Rt
