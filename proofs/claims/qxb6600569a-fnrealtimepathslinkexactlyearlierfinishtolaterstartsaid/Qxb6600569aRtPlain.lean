/-
  REAL TIME: the plain laws: the sorted distinct starts, the places in them, the time nodes' edges. No Go in sight.
-/
import Derived.Lib.SlicesCompact
namespace Go.Proofs.Qxb6600569a.Rt
open Go.Lib

/-! ### Sorted, compacted -/

theorem compact_up (d : Array Int) (hs : ∀ a b, a ≤ b → b < d.size → d[a]! ≤ d[b]!) : ∀ m, m ≤ d.size →
    (compactUpTo d m).Pairwise (· < ·) ∧ (∀ x, x ∈ compactUpTo d m ↔ ∃ j, j < m ∧ d[j]! = x) := by
  intro m
  induction m with
  | zero => intro _; simp [compactUpTo]
  | succ m ih =>
    intro hm
    obtain ⟨h1, h2⟩ := ih (by omega)
    rw [compactUpTo_succ]
    by_cases hk : keeps d m = true
    · rw [if_pos hk]
      have hlt : ∀ j, j < m → d[j]! < d[m]! := by
        intro j hj
        have h3 := hs j (m - 1) (by omega) (by omega)
        have h4 := hs (m - 1) m (by omega) (by omega)
        have h5 : d[m]! ≠ d[m - 1]! := by
          simp only [keeps, decide_eq_true_eq] at hk
          rcases hk with hk | hk
          · omega
          · exact hk
        omega
      refine ⟨?_, ?_⟩
      · rw [List.pairwise_append]
        refine ⟨h1, List.pairwise_singleton _ _, ?_⟩
        intro x hx y hy
        rw [List.mem_singleton] at hy
        subst hy
        obtain ⟨j, hj, rfl⟩ := (h2 x).1 hx
        exact hlt j hj
      · intro x
        rw [List.mem_append, List.mem_singleton, h2]
        constructor
        · rintro (⟨j, hj, e⟩ | e)
          · exact ⟨j, by omega, e⟩
          · exact ⟨m, by omega, e.symm⟩
        · rintro ⟨j, hj, e⟩
          by_cases e' : j = m
          · subst e'; exact .inr e.symm
          · exact .inl ⟨j, by omega, e⟩
    · rw [if_neg hk, List.append_nil]
      have h5 : m ≠ 0 ∧ d[m]! = d[m - 1]! := by
        simp only [keeps, decide_eq_true_eq, not_or, ne_eq, Decidable.not_not] at hk
        exact hk
      refine ⟨h1, fun x => ?_⟩
      rw [h2]
      constructor
      · rintro ⟨j, hj, e⟩; exact ⟨j, by omega, e⟩
      · rintro ⟨j, hj, e⟩
        by_cases e' : j = m
        · subst e'; exact ⟨j - 1, by omega, by rw [← h5.2]; exact e⟩
        · exact ⟨j, by omega, e⟩

/-- The starts that the first k transactions give. -/
def startsTo (s : Nat → Int) (c : Nat → Bool) (k : Nat) : List Int := ((List.range k).filter c).map s

theorem startsTo_succ (s : Nat → Int) (c : Nat → Bool) (k : Nat) : startsTo s c (k + 1) = startsTo s c k ++ (if c k then [s k] else []) := by
  unfold startsTo
  rw [List.range_succ, List.filter_append, List.map_append]
  by_cases h : c k <;> simp [h]

theorem mem_startsTo (s : Nat → Int) (c : Nat → Bool) (k : Nat) (x : Int) : x ∈ startsTo s c k ↔ ∃ i, i < k ∧ c i = true ∧ s i = x := by
  unfold startsTo
  simp only [List.mem_map, List.mem_filter, List.mem_range]
  constructor
  · rintro ⟨i, ⟨h1, h2⟩, h3⟩; exact ⟨i, h1, h2, h3⟩
  · rintro ⟨i, h1, h2, h3⟩; exact ⟨i, ⟨h1, h2⟩, h3⟩

theorem startsTo_length (s : Nat → Int) (c : Nat → Bool) (k : Nat) : (startsTo s c k).length ≤ k := by
  unfold startsTo
  rw [List.length_map]
  exact Nat.le_trans (List.length_filter_le _ _) (by simp)

def sorted (zs : List Int) : List Int := zs.mergeSort fun x y => decide (x ≤ y)

theorem sorted_perm (zs : List Int) : (sorted zs).Perm zs := List.mergeSort_perm _ _

theorem sorted_le (zs : List Int) : (sorted zs).Pairwise (· ≤ ·) := by
  have h := List.pairwise_mergeSort (le := fun x y : Int => decide (x ≤ y)) (by intro a b c h1 h2; simp at *; omega) (by intro a b; simp; omega) zs
  exact h.imp (by intro a b h; simpa using h)

/-- THE TIMES. -/
def times (s : Nat → Int) (c : Nat → Bool) (n : Nat) : List Int := compact (sorted (startsTo s c n))

theorem compact_law (zs : List Int) (hs : zs.Pairwise (· ≤ ·)) : (compact zs).Pairwise (· < ·) ∧ ∀ x, x ∈ compact zs ↔ x ∈ zs := by
  have h := compact_up zs.toArray (by
    intro a b hab hb
    have hb' : b < zs.length := by simpa using hb
    by_cases e : a = b
    · subst e; exact Int.le_refl _
    · rw [List.pairwise_iff_getElem] at hs
      have := hs a b (by omega) hb' (by omega)
      simpa [getElem!_pos, hb', show a < zs.length by omega] using this) zs.length (by simp)
  refine ⟨h.1, fun x => ?_⟩
  rw [show compact zs = compactUpTo zs.toArray zs.length from rfl, h.2]
  rw [List.mem_iff_getElem]
  constructor
  · rintro ⟨j, hj, e⟩
    exact ⟨j, hj, by simpa [getElem!_pos, hj] using e⟩
  · rintro ⟨j, hj, e⟩
    exact ⟨j, hj, by simpa [getElem!_pos, hj] using e⟩

theorem compact_length (zs : List Int) : (compact zs).length ≤ zs.length := by
  unfold compact compactUpTo
  rw [List.length_map]
  exact Nat.le_trans (List.length_filter_le _ _) (by simp)

theorem times_strict (s : Nat → Int) (c : Nat → Bool) (n : Nat) : (times s c n).Pairwise (· < ·) := (compact_law _ (sorted_le _)).1

theorem mem_times (s : Nat → Int) (c : Nat → Bool) (n : Nat) (x : Int) : x ∈ times s c n ↔ ∃ i, i < n ∧ c i = true ∧ s i = x := by
  unfold times
  rw [(compact_law _ (sorted_le _)).2, (sorted_perm _).mem_iff, mem_startsTo]

theorem times_length (s : Nat → Int) (c : Nat → Bool) (n : Nat) : (times s c n).length ≤ n :=
  Nat.le_trans (compact_length _) (by rw [(sorted_perm _).length_eq]; exact startsTo_length s c n)

/-! ### Places in a strictly ascending list -/

def cnt (L : List Int) (x : Int) : Nat := L.countP (· < x)
def aft (L : List Int) (x : Int) : Nat := cnt L x + (if L.contains x then 1 else 0)

theorem cnt_le (L : List Int) (x : Int) : cnt L x ≤ L.length := List.countP_le_length

theorem cnt_place (x : Int) : ∀ L : List Int, L.Pairwise (· < ·) → ∀ j (h : j < L.length), L[j] < x ↔ j < cnt L x := by
  intro L
  induction L with
  | nil => intro _ j h; simp at h
  | cons y ys ih =>
    intro hp j h
    rw [List.pairwise_cons] at hp
    by_cases hy : y < x
    · have e : cnt (y :: ys) x = cnt ys x + 1 := by unfold cnt; rw [List.countP_cons_of_pos (by simpa using hy)]
      rw [e]
      cases j with
      | zero => simp [hy]
      | succ j =>
        rw [List.getElem_cons_succ, ih hp.2 j (by simpa using h)]
        omega
    · have e : cnt (y :: ys) x = 0 := by
        unfold cnt
        rw [List.countP_eq_zero]
        intro z hz
        rw [List.mem_cons] at hz
        rcases hz with rfl | hz
        · simpa using hy
        · have := hp.1 z hz; simp; omega
      rw [e]
      constructor
      · intro hlt
        exfalso
        have hm : (y :: ys)[j] ∈ (y :: ys) := List.getElem_mem h
        rw [List.mem_cons] at hm
        rcases hm with hm | hm
        · omega
        · have := hp.1 _ hm; omega
      · intro hlt; omega

theorem strict_get (L : List Int) (hp : L.Pairwise (· < ·)) {a b : Nat} (hab : a < b) (hb : b < L.length) : L[a] < L[b] := (List.pairwise_iff_getElem.1 hp) a b (by omega) hb hab

/-- A member's place. -/
theorem cnt_mem (L : List Int) (hp : L.Pairwise (· < ·)) (x : Int) (hx : x ∈ L) : ∃ h : cnt L x < L.length, L[cnt L x] = x := by
  obtain ⟨j, hj, rfl⟩ := List.mem_iff_getElem.1 hx
  have h1 : ¬ j < cnt L L[j] := by
    rw [← cnt_place _ L hp j hj]; omega
  have h2 : ¬ cnt L L[j] < j := by
    intro h
    have h3 := strict_get L hp h hj
    rw [cnt_place _ L hp _ (by omega)] at h3
    omega
  have e : cnt L L[j] = j := by omega
  exact ⟨by omega, by simp only [e]⟩

theorem aft_place (L : List Int) (hp : L.Pairwise (· < ·)) (x : Int) (j : Nat) (h : j < L.length) : L[j] ≤ x ↔ j < aft L x := by
  unfold aft
  by_cases hx : x ∈ L
  · rw [if_pos (by simpa using hx)]
    obtain ⟨h1, h2⟩ := cnt_mem L hp x hx
    by_cases e : j < cnt L x
    · have := (cnt_place x L hp j h).2 e; omega
    · by_cases e2 : j = cnt L x
      · subst e2; omega
      · have := strict_get L hp (a := cnt L x) (b := j) (by omega) h
        omega
  · rw [if_neg (by simpa using hx)]
    have hne : L[j] ≠ x := fun e => hx (e ▸ List.getElem_mem h)
    have := cnt_place x L hp j h
    omega

theorem aft_le (L : List Int) (hp : L.Pairwise (· < ·)) (x : Int) : aft L x ≤ L.length := by
  unfold aft
  by_cases hx : x ∈ L
  · rw [if_pos (by simpa using hx)]
    obtain ⟨h1, _⟩ := cnt_mem L hp x hx
    omega
  · rw [if_neg (by simpa using hx)]
    exact cnt_le L x

end Go.Proofs.Qxb6600569a.Rt
