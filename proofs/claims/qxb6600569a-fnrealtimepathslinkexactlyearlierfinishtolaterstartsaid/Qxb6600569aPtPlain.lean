/-
  REAL TIME, THE PATHS: the plain laws. No Go in sight.
-/
import Derived.Test.Qxb6600569aRtNode
namespace Go.Proofs.Qxb6600569a.Rt
open Tj (upd upd_same upd_other)

/-! ### How many distinct starts -/

/-- No committed one ahead of i has i's start. -/
def fst (s : Nat → Int) (c : Nat → Bool) (i j : Nat) : Bool := !((List.range j).any (fun k => c k && decide (s k = s i)))

/-- The firsts among i of them. -/
def dc (s : Nat → Int) (c : Nat → Bool) (i : Nat) : Nat := ((List.range i).filter (fun k => c k && fst s c k k)).length

variable {n : Nat} {s f : Nat → Int} {c : Nat → Bool} {L : List Int} {G : Nat → List (Nat × Int)}

theorem fst_zero (i : Nat) : fst s c i 0 = true := rfl

theorem fst_succ (i j : Nat) : fst s c i (j + 1) = (fst s c i j && !(c j && decide (s j = s i))) := by
  unfold fst
  rw [List.range_succ, List.any_append]
  simp

theorem fst_iff (i j : Nat) : fst s c i j = true ↔ ∀ k, k < j → c k = true → s k ≠ s i := by
  unfold fst
  rw [Bool.not_eq_true', List.any_eq_false]
  simp only [List.mem_range, Bool.and_eq_true, decide_eq_true_eq, not_and]

theorem fst_found (i j k : Nat) (hk : k < j) (hc : c k = true) (he : s k = s i) : fst s c i j = false := by
  cases h : fst s c i j
  · rfl
  · exact absurd he ((fst_iff i j).1 h k hk hc)

theorem dc_succ (i : Nat) : dc s c (i + 1) = dc s c i + (if (c i && fst s c i i) = true then 1 else 0) := by
  unfold dc
  rw [List.range_succ, List.filter_append, List.length_append]
  by_cases h : (c i && fst s c i i) = true
  · rw [if_pos h]; simp [h]
  · rw [if_neg h]; simp [h]

theorem dc_le (i : Nat) : dc s c i ≤ i := by
  unfold dc
  exact Nat.le_trans (List.length_filter_le _ _) (by simp)

theorem strict_nodup {L : List Int} (h : L.Pairwise (· < ·)) : L.Nodup := h.imp (fun h => Int.ne_of_lt h)

/-- The firsts' starts are the times. -/
theorem Tm.count (h : Tm s c n L) : dc s c n = L.length := by
  obtain ⟨F, hF⟩ : ∃ F, F = (List.range n).filter (fun k => c k && fst s c k k) := ⟨_, rfl⟩
  have hmem : ∀ x, x ∈ F.map s ↔ x ∈ L := by
    intro x
    rw [h.mem, List.mem_map, hF]
    simp only [List.mem_filter, List.mem_range, Bool.and_eq_true]
    constructor
    · rintro ⟨i, ⟨h1, h2, _⟩, e⟩; exact ⟨i, h1, h2, e⟩
    · rintro ⟨i, h1, h2, e⟩
      -- the least such
      have : ∃ k, k ≤ i ∧ c k = true ∧ s k = s i ∧ ∀ j, j < k → c j = true → s j ≠ s i := by
        have key : ∀ m, m ≤ i + 1 → (∃ k, k < m ∧ c k = true ∧ s k = s i ∧ ∀ j, j < k → c j = true → s j ≠ s i) ∨ ∀ k, k < m → c k = true → s k ≠ s i := by
          intro m
          induction m with
          | zero => intro _; exact .inr (fun k hk => by omega)
          | succ m ih =>
            intro hm
            rcases ih (by omega) with ⟨k, hk, h3⟩ | h3
            · exact .inl ⟨k, by omega, h3⟩
            · by_cases e : c m = true ∧ s m = s i
              · exact .inl ⟨m, by omega, e.1, e.2, h3⟩
              · refine .inr (fun k hk hc he => ?_)
                by_cases e' : k = m
                · subst e'; exact e ⟨hc, he⟩
                · exact h3 k (by omega) hc he
        rcases key (i + 1) (Nat.le_refl _) with ⟨k, hk, h3⟩ | h3
        · exact ⟨k, by omega, h3⟩
        · exact absurd rfl (h3 i (by omega) h2)
      obtain ⟨k, hk, h3, h4, h5⟩ := this
      refine ⟨k, ⟨by omega, h3, ?_⟩, by rw [h4, e]⟩
      rw [fst_iff]
      intro j hj hc he
      exact h5 j hj hc (by rw [he, h4])
  have hnd : (F.map s).Nodup := by
    rw [List.nodup_iff_pairwise_ne, List.pairwise_map, hF]
    refine List.Pairwise.imp_of_mem ?_ (List.Pairwise.filter _ (List.pairwise_lt_range (n := n)))
    intro a b ha hb hab he
    rw [List.mem_filter, Bool.and_eq_true] at ha hb
    exact (fst_iff b b).1 hb.2.2 a hab ha.2.1 he
  have h1 := List.Nodup.length_le_of_subset hnd (fun x hx => (hmem x).1 hx)
  have h2 := List.Nodup.length_le_of_subset (strict_nodup h.strict) (fun x hx => (hmem x).2 hx)
  rw [List.length_map] at h1 h2
  unfold dc
  rw [← hF]
  omega

/-! ### The search -/

/-- The queue: v, v + 1, .. -/
def qu (n v len : Nat) : List Nat := (List.range len).map (fun i => n + v + i)

theorem qu_len (n v len : Nat) : (qu n v len).length = len := by simp [qu]
theorem qu_succ (n v len : Nat) : qu n v (len + 1) = qu n v len ++ [n + v + len] := by simp [qu, List.range_succ]
theorem qu_get (n v len i : Nat) : ∀ h', (qu n v len)[i]'h' = n + v + i := by intro h'; simp [qu]

def sn (v len j : Nat) : Bool := decide (v ≤ j ∧ j < v + len)

theorem sn_zero (v j : Nat) : sn v 0 j = false := by unfold sn; exact decide_eq_false (by omega)
theorem sn_new (v len : Nat) : sn v len (v + len) = false := by unfold sn; exact decide_eq_false (by omega)
theorem sn_step (v len j : Nat) : (if j = v + len then true else sn v len j) = sn v (len + 1) j := by
  unfold sn
  by_cases e : j = v + len
  · rw [if_pos e]; exact (decide_eq_true (by omega)).symm
  · rw [if_neg e]
    by_cases h : v ≤ j ∧ j < v + len
    · rw [decide_eq_true h, decide_eq_true (by omega)]
    · rw [decide_eq_false h, decide_eq_false (by omega)]

def rea (s : Nat → Int) (c : Nat → Bool) (L : List Int) (n v h e b : Nat) : Bool := decide (c b = true ∧ v ≤ cnt L (s b) ∧ (cnt L (s b) < v + h ∨ b ∈ (grp s c L n (v + h)).take e))

theorem rea_zero (v b : Nat) : rea s c L n v 0 0 b = false := by
  unfold rea
  refine decide_eq_false ?_
  rintro ⟨_, h1, h2 | h2⟩
  · omega
  · simp at h2

theorem rea_step (v h e b : Nat) (he : e < (grp s c L n (v + h)).length) : (if b = (grp s c L n (v + h))[e] then true else rea s c L n v h e b) = rea s c L n v h (e + 1) b := by
  unfold rea
  have hm := (mem_grp _ _).1 (List.getElem_mem he)
  by_cases e1 : b = (grp s c L n (v + h))[e]
  · rw [if_pos e1]
    refine (decide_eq_true ⟨by rw [e1]; exact hm.2.1, by rw [e1]; omega, .inr ?_⟩).symm
    rw [List.take_succ_eq_append_getElem he, List.mem_append]; exact .inr (by simp [e1])
  · rw [if_neg e1, List.take_succ_eq_append_getElem he]
    have : (b ∈ (grp s c L n (v + h)).take e ++ [(grp s c L n (v + h))[e]]) = (b ∈ (grp s c L n (v + h)).take e) := by
      rw [List.mem_append, List.mem_singleton]; simp [e1]
    simp only [this]

theorem rea_next (v h e b : Nat) (hb : b < n) (he : (grp s c L n (v + h)).length ≤ e) : rea s c L n v h e b = rea s c L n v (h + 1) 0 b := by
  unfold rea
  rw [List.take_of_length_le he]
  have : (c b = true ∧ v ≤ cnt L (s b) ∧ (cnt L (s b) < v + h ∨ b ∈ grp s c L n (v + h))) ↔ (c b = true ∧ v ≤ cnt L (s b) ∧ (cnt L (s b) < v + (h + 1) ∨ b ∈ (grp s c L n (v + (h + 1))).take 0)) := by
    rw [mem_grp]
    simp only [List.take_zero, List.not_mem_nil, or_false]
    constructor
    · rintro ⟨h1, h2, h3 | h3⟩
      · exact ⟨h1, h2, by omega⟩
      · exact ⟨h1, h2, by omega⟩
    · rintro ⟨h1, h2, h3⟩
      refine ⟨h1, h2, ?_⟩
      by_cases e' : cnt L (s b) < v + h
      · exact .inl e'
      · exact .inr ⟨hb, h1, by omega⟩
  by_cases hh : c b = true ∧ v ≤ cnt L (s b) ∧ (cnt L (s b) < v + h ∨ b ∈ grp s c L n (v + h))
  · rw [decide_eq_true hh, decide_eq_true (this.1 hh)]
  · rw [decide_eq_false hh, decide_eq_false (fun h' => hh (this.2 h'))]

theorem Tm.rea_end (h : Tm s c n L) (x : Int) (b : Nat) (hb : b < n) : rea s c L n (aft L x) (L.length - aft L x) 0 b = (c b && decide (x < s b)) := by
  unfold rea
  cases hc : c b
  · rw [decide_eq_false (by simp)]; rfl
  · have h1 := (h.place hb hc).1
    have h2 := h.before x hb hc
    rw [Bool.true_and]
    by_cases h3 : x < s b
    · rw [decide_eq_true h3, decide_eq_true]
      exact ⟨rfl, h2.2 h3, .inl (by have := h2.2 h3; omega)⟩
    · rw [decide_eq_false h3, decide_eq_false]
      rintro ⟨_, h4, _⟩
      exact h3 (h2.1 h4)

/-- The queue's length when h of it are looked at, and e edges of the next row with p transactions. -/
theorem qlen_next (D v h p e : Nat) (hh : h < D - v) (he : e = p + (if v + h + 1 < D then 1 else 0)) : h + 1 + (e - p) = min (h + 1 + 1) (D - v) := by
  subst he
  split <;> omega

/-! ### The rows of the transactions -/

theorem old_edge (v k : Nat) (hv : v < n) (hk : k < (G v).length) : (rowsEnd n s f c L G (L.length - 1) v).getD k (0, 0) = (G v)[k] := by
  rw [end_old v hv, List.getD_eq_getElem?_getD, List.getElem?_append_left hk, List.getElem?_eq_getElem hk]; rfl

theorem new_edge (v k : Nat) (hv : v < n) (hk : ¬ k < (G v).length) (hk2 : k < (rowsEnd n s f c L G (L.length - 1) v).length) : (rowsEnd n s f c L G (L.length - 1) v).getD k (0, 0) = (n + aft L (f v), 3) ∧ k = (G v).length ∧ c v = true ∧ aft L (f v) < L.length := by
  rw [end_old v hv] at hk2 ⊢
  unfold outE at hk2 ⊢
  by_cases h : c v = true ∧ aft L (f v) < L.length
  · rw [if_pos h] at hk2 ⊢
    have hl : k = (G v).length := by simp at hk2; omega
    refine ⟨?_, hl, h⟩
    rw [List.getD_eq_getElem?_getD, List.getElem?_append_right (by omega), hl]
    simp
  · rw [if_neg h] at hk2
    simp at hk2
    omega

theorem old_len (v : Nat) (hv : v < n) : (rowsEnd n s f c L G (L.length - 1) v).length = (G v).length + (if c v = true ∧ aft L (f v) < L.length then 1 else 0) := by
  rw [end_old v hv, List.length_append]
  unfold outE
  split <;> rfl

/-- An edge of a time node goes to a committed transaction or to the next time node. -/
theorem time_edge' (j k : Nat) (hj : j < L.length) (hk : k < (rowsEnd n s f c L G (L.length - 1) (n + j)).length) :
    ∃ t, (rowsEnd n s f c L G (L.length - 1) (n + j)).getD k (0, 0) = (t, 3) ∧ ((k < (grp s c L n j).length ∧ t < n ∧ c t = true ∧ (grp s c L n j)[k]? = some t) ∨ (¬ k < (grp s c L n j).length ∧ k = (grp s c L n j).length ∧ t = n + j + 1 ∧ j + 1 < L.length)) := by
  by_cases h : k < (grp s c L n j).length
  · refine ⟨(grp s c L n j)[k], ?_, .inl ⟨h, ?_⟩⟩
    · rw [List.getD_eq_getElem?_getD, List.getElem?_eq_getElem hk, time_edge j k hj h]; rfl
    · have hm := (mem_grp _ _).1 (List.getElem_mem h)
      exact ⟨hm.1, hm.2.1, List.getElem?_eq_getElem h⟩
  · have h2 := time_chain (n := n) (s := s) (f := f) (c := c) (L := L) (G := G) j k hj h hk
    refine ⟨n + j + 1, ?_, .inr ⟨h, h2.2.1, rfl, h2.2.2⟩⟩
    rw [List.getD_eq_getElem?_getD, List.getElem?_eq_getElem hk, h2.1]; rfl

/-- How many edges of a row are the old graph's. -/
def oldN (G : Nat → List (Nat × Int)) (n v : Nat) : Nat := if v < n then (G v).length else 0

/-- An edge that 'withRealTime' has laid. -/
theorem laid_edge (v k : Nat) (hv : v < n + L.length) (hk : oldN G n v ≤ k) (hk2 : k < (rowsEnd n s f c L G (L.length - 1) v).length) :
    ∃ t, (rowsEnd n s f c L G (L.length - 1) v).getD k (0, 0) = (t, 3) ∧ t < n + L.length ∧ (v < n → n ≤ t ∧ c v = true) ∧ (¬ v < n → t < n → c t = true) := by
  unfold oldN at hk
  by_cases e : v < n
  · rw [if_pos e] at hk
    obtain ⟨h1, h2, h3, h4⟩ := new_edge v k e (by omega) hk2
    exact ⟨_, h1, by omega, fun _ => ⟨by omega, h3⟩, fun h => absurd e h⟩
  · obtain ⟨j, rfl⟩ : ∃ j, v = n + j := ⟨v - n, by omega⟩
    obtain ⟨t, h1, h2⟩ := time_edge' j k (by omega) hk2
    rcases h2 with ⟨_, h3, h4, _⟩ | ⟨_, _, h3, h4⟩
    · exact ⟨t, h1, by omega, fun h => absurd h e, fun _ _ => h4⟩
    · exact ⟨t, h1, by omega, fun h => absurd h e, fun _ h5 => by omega⟩

end Go.Proofs.Qxb6600569a.Rt
