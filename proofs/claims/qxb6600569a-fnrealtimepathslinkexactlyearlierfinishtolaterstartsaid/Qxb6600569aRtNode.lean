/-
  REAL TIME: the plain laws of the rows that 'withRealTime' leaves. No Go in sight.
-/
import Derived.Test.Qxb6600569aRtGraph
namespace Go.Proofs.Qxb6600569a.Rt
open Tj (upd upd_same upd_other)

/-- The committed transactions that started at the j-th time. -/
def grp (s : Nat → Int) (c : Nat → Bool) (L : List Int) (n j : Nat) : List Nat := (List.range n).filter (fun k => c k && (cnt L (s k) == j))

variable {n : Nat} {s f : Nat → Int} {c : Nat → Bool} {L : List Int} {G : Nat → List (Nat × Int)}

theorem ins_grp (j : Nat) : ins s c L n j = (grp s c L n j).map (·, 3) := rfl

theorem mem_grp (i j : Nat) : i ∈ grp s c L n j ↔ i < n ∧ c i = true ∧ cnt L (s i) = j := by
  unfold grp
  rw [List.mem_filter, List.mem_range, Bool.and_eq_true, beq_iff_eq]

theorem grp_nodup (j : Nat) : (grp s c L n j).Nodup := List.Pairwise.filter _ List.nodup_range

theorem grp_len (j : Nat) : (grp s c L n j).length ≤ n := Nat.le_trans (List.length_filter_le _ _) (by simp)

/-- The row of a time node. -/
theorem end_time (j : Nat) (hj : j < L.length) : rowsEnd n s f c L G (L.length - 1) (n + j) = (grp s c L n j).map (·, 3) ++ (if j + 1 < L.length then [(n + j + 1, 3)] else []) := by
  unfold rowsEnd rowsTo
  rw [if_neg (by omega), ins_grp, Nat.add_sub_cancel_left]
  by_cases h : j + 1 < L.length
  · rw [if_pos (by omega), if_pos h]
  · rw [if_neg (by omega), if_neg h]

/-- The row of a transaction. -/
theorem end_old (v : Nat) (hv : v < n) : rowsEnd n s f c L G (L.length - 1) v = G v ++ outE n f c L v := by
  unfold rowsEnd rowsTo
  rw [if_pos hv, if_pos hv, if_neg (by omega), List.append_nil]

/-- What the list L is to the transactions. -/
structure Tm (s : Nat → Int) (c : Nat → Bool) (n : Nat) (L : List Int) : Prop where
  strict : L.Pairwise (· < ·)
  mem : ∀ x, x ∈ L ↔ ∃ i, i < n ∧ c i = true ∧ s i = x
  len : L.length ≤ n

theorem times_tm (s : Nat → Int) (c : Nat → Bool) (n : Nat) : Tm s c n (times s c n) := ⟨times_strict s c n, mem_times s c n, times_length s c n⟩

def lat (L : List Int) (j : Nat) : Int := L.getD j 0

theorem lat_get {j : Nat} (h : j < L.length) : lat L j = L[j] := by
  unfold lat
  rw [List.getD_eq_getElem?_getD, List.getElem?_eq_getElem h]; rfl

theorem Tm.place (h : Tm s c n L) {i : Nat} (hi : i < n) (hc : c i = true) : cnt L (s i) < L.length ∧ lat L (cnt L (s i)) = s i := by
  obtain ⟨h1, h2⟩ := cnt_mem L h.strict (s i) ((h.mem _).2 ⟨i, hi, hc, rfl⟩)
  exact ⟨h1, by rw [lat_get h1]; exact h2⟩

theorem Tm.start (h : Tm s c n L) {i j : Nat} (hi : i ∈ grp s c L n j) : s i = lat L j := by
  obtain ⟨h1, h2, rfl⟩ := (mem_grp i j).1 hi
  exact (h.place h1 h2).2.symm

theorem Tm.some (h : Tm s c n L) {j : Nat} (hj : j < L.length) : 0 < (grp s c L n j).length := by
  obtain ⟨i, hi, hc, e⟩ := (h.mem L[j]).1 (List.getElem_mem hj)
  have h1 := h.place hi hc
  have : cnt L (s i) = j := by
    have h2 := h1.2
    rw [lat_get h1.1] at h2
    rcases Nat.lt_trichotomy (cnt L (s i)) j with h3 | h3 | h3
    · have := strict_get L h.strict h3 hj; omega
    · exact h3
    · have := strict_get L h.strict h3 h1.1; omega
  exact List.length_pos_of_mem ((mem_grp i j).2 ⟨hi, hc, this⟩)

theorem Tm.rise (h : Tm s c n L) {a b : Nat} (hab : a < b) (hb : b < L.length) : lat L a < lat L b := by
  rw [lat_get hb, lat_get (by omega)]
  exact strict_get L h.strict hab hb

theorem Tm.after (h : Tm s c n L) (x : Int) (j : Nat) (hj : j < L.length) : lat L j ≤ x ↔ j < aft L x := by
  rw [lat_get hj]; exact aft_place L h.strict x j hj

/-- a finished before b started: exactly then b's time is not before the first time after a's finish. -/
theorem Tm.before (h : Tm s c n L) (x : Int) {b : Nat} (hb : b < n) (hc : c b = true) : aft L x ≤ cnt L (s b) ↔ x < s b := by
  obtain ⟨h1, h2⟩ := h.place hb hc
  have := h.after x _ h1
  rw [h2] at this
  omega

/-! ### The edges of a time node, one by one -/

theorem time_edge (j k : Nat) (hj : j < L.length) (hk : k < (grp s c L n j).length) : ∀ h, (rowsEnd n s f c L G (L.length - 1) (n + j))[k]'h = ((grp s c L n j)[k], 3) := by
  rw [end_time j hj]
  intro h
  rw [List.getElem_append_left (by simpa using hk), List.getElem_map]

theorem time_chain (j k : Nat) (hj : j < L.length) (hk : ¬ k < (grp s c L n j).length) : ∀ h, (rowsEnd n s f c L G (L.length - 1) (n + j))[k]'h = (n + j + 1, 3) ∧ k = (grp s c L n j).length ∧ j + 1 < L.length := by
  rw [end_time j hj]
  intro h
  by_cases hc : j + 1 < L.length
  · simp only [hc, if_true] at h ⊢
    have hl : k = (grp s c L n j).length := by simp at h; omega
    refine ⟨?_, hl, trivial⟩
    rw [List.getElem_append_right (by simp; omega)]
    simp
  · simp only [hc, if_false, List.append_nil] at h
    simp at h; omega

theorem time_len (j : Nat) (hj : j < L.length) : (rowsEnd n s f c L G (L.length - 1) (n + j)).length = (grp s c L n j).length + (if j + 1 < L.length then 1 else 0) := by
  rw [end_time j hj, List.length_append, List.length_map]
  split <;> rfl

/-! ### The law's own tallies -/

/-- The node's start when k of its edges are looked at. -/
def nst (L : List Int) (j k i : Nat) : Int := if i < j then lat L i else if i = j ∧ 0 < k then lat L j else 0

def inc (s : Nat → Int) (c : Nat → Bool) (L : List Int) (n j k a : Nat) : Int := if c a = true ∧ (cnt L (s a) < j ∨ a ∈ (grp s c L n j).take k) then 1 else 0

theorem nst_first (j i : Nat) : (if i = j then lat L j else nst L j 0 i) = nst L j 1 i := by
  unfold nst
  by_cases e : i = j
  · subst e; simp
  · simp [e]

theorem nst_more (j k : Nat) (hk : 0 < k) : nst L j (k + 1) = nst L j k := by
  funext i
  unfold nst
  simp [hk]

theorem nst_next (j k : Nat) (hk : 0 < k) : nst L j k = nst L (j + 1) 0 := by
  funext i
  unfold nst
  by_cases e : i = j
  · subst e; simp [hk]
  · by_cases e1 : i < j
    · rw [if_pos e1, if_pos (by omega)]
    · rw [if_neg e1, if_neg (by omega), if_neg (by omega), if_neg (by omega)]

theorem nst_at (j k : Nat) (hk : 0 < k) : nst L j k j = lat L j := by unfold nst; simp [hk]

theorem nst_old (j k i : Nat) (h : i < j) : nst L j k i = lat L i := by unfold nst; simp [h]

theorem inc_zero (j k : Nat) (hk : k < (grp s c L n j).length) : inc s c L n j k (grp s c L n j)[k] = 0 := by
  unfold inc
  have h := (mem_grp _ _).1 (List.getElem_mem hk)
  refine if_neg ?_
  rintro ⟨_, h1 | h1⟩
  · omega
  · obtain ⟨q, hq, e⟩ := List.mem_take_iff_getElem.1 h1
    have := (List.getElem_inj (grp_nodup (s := s) (c := c) (L := L) (n := n) j)).1 e
    omega

theorem inc_step (j k a : Nat) (hk : k < (grp s c L n j).length) : (if a = (grp s c L n j)[k] then (1 : Int) else inc s c L n j k a) = inc s c L n j (k + 1) a := by
  unfold inc
  rw [List.take_succ_eq_append_getElem hk]
  by_cases e : a = (grp s c L n j)[k]
  · have h := (mem_grp _ _).1 (List.getElem_mem hk)
    rw [if_pos e, if_pos]
    refine ⟨by rw [e]; exact h.2.1, .inr ?_⟩
    rw [List.mem_append]; exact .inr (by simp [e])
  · rw [if_neg e]
    have : (a ∈ (grp s c L n j).take k ++ [(grp s c L n j)[k]]) = (a ∈ (grp s c L n j).take k) := by
      rw [List.mem_append, List.mem_singleton]; simp [e]
    simp only [this]

theorem inc_next (j k a : Nat) (ha : a < n) (hk : (grp s c L n j).length ≤ k) : inc s c L n j k a = inc s c L n (j + 1) 0 a := by
  unfold inc
  rw [List.take_of_length_le hk]
  have : (c a = true ∧ (cnt L (s a) < j ∨ a ∈ grp s c L n j)) ↔ (c a = true ∧ (cnt L (s a) < j + 1 ∨ a ∈ (grp s c L n (j + 1)).take 0)) := by
    rw [mem_grp]
    simp only [List.take_zero, List.not_mem_nil, or_false]
    constructor
    · rintro ⟨h1, h2 | h2⟩
      · exact ⟨h1, by omega⟩
      · exact ⟨h1, by omega⟩
    · rintro ⟨h1, h2⟩
      refine ⟨h1, ?_⟩
      by_cases e : cnt L (s a) < j
      · exact .inl e
      · exact .inr ⟨ha, h1, by omega⟩
  by_cases h : c a = true ∧ (cnt L (s a) < j ∨ a ∈ grp s c L n j)
  · rw [if_pos h, if_pos (this.1 h)]
  · rw [if_neg h, if_neg (fun h' => h (this.2 h'))]

theorem Tm.inc_end (h : Tm s c n L) (a : Nat) (ha : a < n) : inc s c L n L.length 0 a = if c a = true then 1 else 0 := by
  unfold inc
  by_cases hc : c a = true
  · rw [if_pos hc, if_pos ⟨hc, .inl (h.place ha hc).1⟩]
  · rw [if_neg hc, if_neg (fun e => hc e.1)]

end Go.Proofs.Qxb6600569a.Rt
