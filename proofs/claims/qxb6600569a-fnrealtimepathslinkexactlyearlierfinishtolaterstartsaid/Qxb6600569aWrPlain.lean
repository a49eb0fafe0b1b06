/-
  THE PLAIN LAWS OF 'writers': the writes of a history, in file and program order; the first write of each version counts. No Go in sight.
-/
namespace Go.Proofs.Qxb6600569a

/-- The place of a key among the entries, the elder first. -/
def look (k : ByteArray × Int) : List ((ByteArray × Int) × (Nat × Nat)) → Option (Nat × Nat)
  | [] => none
  | x :: L => if k = x.1 then some x.2 else look k L

theorem look_append (k : ByteArray × Int) (L M : List ((ByteArray × Int) × (Nat × Nat))) : look k (L ++ M) = (look k L).or (look k M) := by
  induction L with
  | nil => simp [look]
  | cons x L ih =>
    simp only [List.cons_append, look]
    by_cases e : k = x.1
    · simp [e]
    · simp [e, ih]

theorem look_mem {k : ByteArray × Int} {L : List ((ByteArray × Int) × (Nat × Nat))} {r : Nat × Nat} (h : look k L = some r) : (k, r) ∈ L := by
  induction L with
  | nil => simp [look] at h
  | cons x L ih =>
    simp only [look] at h
    by_cases e : k = x.1
    · rw [if_pos e] at h
      have := Option.some.inj h
      subst e this
      exact List.mem_cons_self ..
    · rw [if_neg e] at h
      exact List.mem_cons_of_mem _ (ih h)

/-- An operation: does it write; its key; its version. -/
structure OpT where
  wr : Bool
  key : ByteArray
  ver : Int

def OpT.kv (o : OpT) : ByteArray × Int := (o.key, o.ver)

/-- What the operation at (i, j) does to the entries. -/
def wstep (i j : Nat) (o : OpT) (L : List ((ByteArray × Int) × (Nat × Nat))) : List ((ByteArray × Int) × (Nat × Nat)) :=
  if o.wr = true ∧ look o.kv L = none then L ++ [(o.kv, (i, j))] else L

/-- .. and a row of operations, from place j on. -/
def wrow (i : Nat) : Nat → List OpT → List ((ByteArray × Int) × (Nat × Nat)) → List ((ByteArray × Int) × (Nat × Nat))
  | _, [], L => L
  | j, o :: os, L => wrow i (j + 1) os (wstep i j o L)

/-- The entries when t transactions have been gone through. -/
def wto (O : Nat → List OpT) : Nat → List ((ByteArray × Int) × (Nat × Nat))
  | 0 => []
  | t + 1 => wrow t 0 (O t) (wto O t)

/-- .. and j operations of the next. -/
def wat (O : Nat → List OpT) (t j : Nat) : List ((ByteArray × Int) × (Nat × Nat)) := wrow t 0 ((O t).take j) (wto O t)

theorem wrow_snoc (i : Nat) (os : List OpT) (o : OpT) : ∀ (j : Nat) (L : List ((ByteArray × Int) × (Nat × Nat))), wrow i j (os ++ [o]) L = wstep i (j + os.length) o (wrow i j os L) := by
  induction os with
  | nil => intro j L; simp [wrow]
  | cons x os ih =>
    intro j L
    simp only [List.cons_append, wrow, List.length_cons]
    rw [ih]
    have e : j + 1 + os.length = j + (os.length + 1) := by omega
    rw [e]

theorem wat_zero (O : Nat → List OpT) (t : Nat) : wat O t 0 = wto O t := rfl
theorem wat_full (O : Nat → List OpT) (t : Nat) : wat O t (O t).length = wto O (t + 1) := by simp [wat, wto]
theorem wat_step (O : Nat → List OpT) (t j : Nat) (h : j < (O t).length) : wat O t (j + 1) = wstep t j (O t)[j] (wat O t j) := by
  unfold wat
  rw [List.take_succ_eq_append_getElem h, wrow_snoc]
  have e : 0 + ((O t).take j).length = j := by rw [List.length_take]; omega
  rw [e]

/-- What is there stays there, ahead of what comes. -/
theorem wstep_grows (i j : Nat) (o : OpT) (L : List ((ByteArray × Int) × (Nat × Nat))) : ∃ M, wstep i j o L = L ++ M ∧ ∀ x ∈ M, x.2 = (i, j) := by
  unfold wstep
  split
  · exact ⟨_, rfl, fun x hx => by simp at hx; rw [hx]⟩
  · exact ⟨[], by simp, fun x hx => by simp at hx⟩

theorem wrow_grows (i : Nat) (os : List OpT) : ∀ (j : Nat) (L : List ((ByteArray × Int) × (Nat × Nat))), ∃ M, wrow i j os L = L ++ M ∧ ∀ x ∈ M, x.2.1 = i := by
  induction os with
  | nil => intro j L; exact ⟨[], by simp [wrow], fun x hx => by simp at hx⟩
  | cons o os ih =>
    intro j L
    obtain ⟨M, e, hM⟩ := wstep_grows i j o L
    obtain ⟨M', e', hM'⟩ := ih (j + 1) (wstep i j o L)
    refine ⟨M ++ M', by simp only [wrow]; rw [e', e, List.append_assoc], fun x hx => ?_⟩
    rcases List.mem_append.1 hx with hx | hx
    · rw [hM x hx]
    · exact hM' x hx

theorem wto_grows (O : Nat → List OpT) (t d : Nat) : ∃ M, wto O (t + d) = wto O t ++ M ∧ ∀ x ∈ M, t ≤ x.2.1 := by
  induction d with
  | zero => exact ⟨[], by simp, fun x hx => by simp at hx⟩
  | succ d ih =>
    obtain ⟨M, e, hM⟩ := ih
    obtain ⟨M', e', hM'⟩ := wrow_grows (t + d) (O (t + d)) 0 (wto O (t + d))
    refine ⟨M ++ M', ?_, fun x hx => ?_⟩
    · show wrow (t + d) 0 (O (t + d)) (wto O (t + d)) = _
      rw [e', e, List.append_assoc]
    · rcases List.mem_append.1 hx with hx | hx
      · exact hM x hx
      · rw [hM' x hx]; omega

theorem wat_grows (O : Nat → List OpT) (t j : Nat) (d : Nat) : ∃ M, wto O (t + 1 + d) = wat O t j ++ M := by
  obtain ⟨M, e, _⟩ := wto_grows O (t + 1) d
  have h : wto O (t + 1) = wrow t 0 ((O t).take j ++ (O t).drop j) (wto O t) := by rw [List.take_append_drop]; rfl
  have happ : ∀ (a b : List OpT) (k : Nat) (L : List ((ByteArray × Int) × (Nat × Nat))), wrow t k (a ++ b) L = wrow t (k + a.length) b (wrow t k a L) := by
    intro a
    induction a with
    | nil => intro b k L; simp [wrow]
    | cons x a ih =>
      intro b k L
      simp only [List.cons_append, wrow, List.length_cons]
      rw [ih]
      have e : k + 1 + a.length = k + (a.length + 1) := by omega
      rw [e]
  rw [happ] at h
  obtain ⟨M', e', _⟩ := wrow_grows t ((O t).drop j) (0 + ((O t).take j).length) (wrow t 0 ((O t).take j) (wto O t))
  exact ⟨M' ++ M, by rw [e, h, e', List.append_assoc]; rfl⟩

/-- Each entry is a write of its key. -/
def Good (O : Nat → List OpT) (t j : Nat) (x : (ByteArray × Int) × (Nat × Nat)) : Prop :=
  (x.2.1 < t ∨ (x.2.1 = t ∧ x.2.2 < j)) ∧ ∃ h : x.2.2 < (O x.2.1).length, (O x.2.1)[x.2.2].wr = true ∧ (O x.2.1)[x.2.2].kv = x.1

theorem Good.next {O : Nat → List OpT} {t j : Nat} {x : (ByteArray × Int) × (Nat × Nat)} (h : Good O t j x) : Good O t (j + 1) x := ⟨by have := h.1; omega, h.2⟩

theorem Good.row {O : Nat → List OpT} {t j : Nat} {x : (ByteArray × Int) × (Nat × Nat)} (h : Good O t j x) : Good O (t + 1) 0 x := ⟨by have := h.1; omega, h.2⟩

theorem wat_good (O : Nat → List OpT) (t : Nat) (ht : ∀ x ∈ wto O t, Good O t 0 x) : ∀ j, j ≤ (O t).length → ∀ x ∈ wat O t j, Good O t j x := by
  intro j
  induction j with
  | zero => intro _ x hx; exact ht x hx
  | succ j ih =>
    intro hj x hx
    rw [wat_step O t j hj] at hx
    unfold wstep at hx
    split at hx
    · rename_i hc
      rcases List.mem_append.1 hx with hx | hx
      · exact (ih (by omega) x hx).next
      · simp at hx
        subst hx
        exact ⟨.inr ⟨rfl, by show j < j + 1; omega⟩, ⟨hj, hc.1, rfl⟩⟩
    · exact (ih (by omega) x hx).next

theorem wto_good (O : Nat → List OpT) : ∀ t, ∀ x ∈ wto O t, Good O t 0 x := by
  intro t
  induction t with
  | zero => intro x hx; simp [wto] at hx
  | succ t ih =>
    intro x hx
    rw [← wat_full] at hx
    exact (wat_good O t ih _ (Nat.le_refl _) x hx).row

/-- WHAT THE WHOLE MAP SAYS AT THE OPERATION (t, j), against the entries before it. -/
theorem whole_at (O : Nat → List OpT) (n t j : Nat) (ht : t < n) (hj : j < (O t).length) :
    ((O t)[j].wr = true ∧ look (O t)[j].kv (wat O t j) = none ∧ look (O t)[j].kv (wto O n) = some (t, j) ∧ (wat O t (j + 1)).length = (wat O t j).length + 1) ∨
    ((O t)[j].wr = true ∧ (∃ a b, look (O t)[j].kv (wto O n) = some (a, b) ∧ (a < t ∨ (a = t ∧ b < j))) ∧ wat O t (j + 1) = wat O t j) ∨
    ((O t)[j].wr = false ∧ wat O t (j + 1) = wat O t j) := by
  obtain ⟨d, rfl⟩ : ∃ d, n = t + 1 + d := ⟨n - (t + 1), by omega⟩
  by_cases hw : (O t)[j].wr = true
  · by_cases hl : look (O t)[j].kv (wat O t j) = none
    · refine .inl ⟨hw, hl, ?_, ?_⟩
      · obtain ⟨M, e⟩ := wat_grows O t (j + 1) d
        rw [e, wat_step O t j hj, look_append]
        unfold wstep
        rw [if_pos ⟨hw, hl⟩, look_append, hl]
        simp [look]
      · rw [wat_step O t j hj]
        unfold wstep
        rw [if_pos ⟨hw, hl⟩]
        simp
    · refine .inr (.inl ⟨hw, ?_, ?_⟩)
      · obtain ⟨M, e⟩ := wat_grows O t j d
        cases hs : look (O t)[j].kv (wat O t j) with
        | none => exact absurd hs hl
        | some r =>
          have hg := wat_good O t (wto_good O t) j (by omega) _ (look_mem hs)
          refine ⟨r.1, r.2, ?_, hg.1⟩
          rw [e, look_append, hs]
          rfl
      · rw [wat_step O t j hj]
        unfold wstep
        rw [if_neg (fun h => hl h.2)]
  · refine .inr (.inr ⟨by simpa using hw, ?_⟩)
    rw [wat_step O t j hj]
    unfold wstep
    rw [if_neg (fun h => hw h.1)]

/-- What the whole map says is a write of that very key. -/
theorem whole_write (O : Nat → List OpT) (n : Nat) {k : ByteArray × Int} {a b : Nat} (h : look k (wto O n) = some (a, b)) : a < n ∧ ∃ hb : b < (O a).length, (O a)[b].wr = true ∧ (O a)[b].kv = k := by
  have hg := wto_good O n _ (look_mem h)
  refine ⟨?_, hg.2⟩
  have := hg.1
  simp only [] at this
  omega

/-- THE PREFIX: what the first c transactions fix stays fixed; what they do not hold is written later. -/
theorem prefix_look (O : Nat → List OpT) (c n : Nat) (hc : c ≤ n) (k : ByteArray × Int) :
    (∀ r, look k (wto O c) = some r → look k (wto O n) = some r) ∧ (look k (wto O c) = none → ∀ a b, look k (wto O n) = some (a, b) → c ≤ a) ∧ (wto O c).length ≤ (wto O n).length := by
  obtain ⟨d, rfl⟩ : ∃ d, n = c + d := ⟨n - c, by omega⟩
  obtain ⟨M, e, hM⟩ := wto_grows O c d
  refine ⟨fun r hr => by rw [e, look_append, hr]; rfl, fun hn a b hab => ?_, by rw [e]; simp⟩
  rw [e, look_append, hn] at hab
  simp at hab
  exact hM _ (look_mem hab)

/-- A write among the first c transactions is in their map. -/
theorem prefix_has (O : Nat → List OpT) (c t j : Nat) (ht : t < c) (hj : j < (O t).length) (hw : (O t)[j].wr = true) : ∃ r, look (O t)[j].kv (wto O c) = some r := by
  rcases whole_at O c t j ht hj with h | h | h
  · exact ⟨_, h.2.2.1⟩
  · obtain ⟨a, b, h1, _⟩ := h.2.1
    exact ⟨_, h1⟩
  · rw [hw] at h; simp at h

end Go.Proofs.Qxb6600569a
