/-
  THE PLAIN LAW OF Tarjan's ALGORITHM, with an explicit stack of calls: no Go in sight. A state, what holds of it at every round's head ('Inv'), one lemma for each thing that a round does, and what holds at the end ('Inv.final').
-/
namespace Go.Proofs.Qxb6600569a.Tj

/-- v can be reached from u along edges of g. -/
def Reach (g : Nat → List Nat) (u v : Nat) : Prop := ∀ P : Nat → Prop, P u → (∀ x y, P x → y ∈ g x → P y) → P v

theorem Reach.refl (g : Nat → List Nat) (u : Nat) : Reach g u u := fun _ h _ => h
theorem Reach.trans {g : Nat → List Nat} {u v x : Nat} (h : Reach g u v) (k : Reach g v x) : Reach g u x := fun P hu hs => k P (h P hu hs) hs
theorem Reach.step {g : Nat → List Nat} {u v x : Nat} (h : Reach g u v) (k : x ∈ g v) : Reach g u x := fun P hu hs => hs _ _ (h P hu hs) k

/-- One place of a function turned. -/
def upd {α : Type} (f : Nat → α) (i : Nat) (v : α) : Nat → α := fun j => if j = i then v else f j
theorem upd_same {α : Type} (f : Nat → α) (i : Nat) (v : α) : upd f i v i = v := by simp [upd]
theorem upd_other {α : Type} (f : Nat → α) (i : Nat) (v : α) (j : Nat) (h : j ≠ i) : upd f i v j = f j := by simp [upd, h]

/-- The variables of 'components': the tops of 'calls' and 'stack' come first here. -/
structure St where
  order : Nat → Nat
  low : Nat → Nat
  comp : Nat → Int
  calls : List (Nat × Nat)
  stack : List Nat
  visits : Nat
  comps : Nat

structure Inv (n : Nat) (g : Nat → List Nat) (s : St) : Prop where
  lt : ∀ x, 0 < s.order x → x < n
  ole : ∀ x, s.order x ≤ s.visits
  inj : ∀ x y, 0 < s.order x → s.order x = s.order y → x = y
  count : ∃ V : List Nat, V.Nodup ∧ V.length = s.visits ∧ ∀ x, x ∈ V ↔ 0 < s.order x
  onStack : ∀ x, x ∈ s.stack ↔ (0 < s.order x ∧ s.comp x < 0)
  sorted : s.stack.Pairwise (fun a b => s.order b < s.order a)
  compLt : ∀ x, s.comp x < s.comps
  compGe : ∀ x, -1 ≤ s.comp x
  compVis : ∀ x, 0 ≤ s.comp x → 0 < s.order x
  callsOn : ∀ c ∈ s.calls, c.1 ∈ s.stack
  callsSorted : s.calls.Pairwise (fun a b => s.order b.1 < s.order a.1)
  next : ∀ c ∈ s.calls, c.2 ≤ (g c.1).length
  doneEdge : ∀ x, 0 ≤ s.comp x → ∀ y ∈ g x, 0 ≤ s.comp y ∧ s.comp y ≤ s.comp x
  doneReach : ∀ x y, 0 ≤ s.comp x → s.comp x = s.comp y → Reach g x y
  edgeFin : ∀ x ∈ s.stack, (∀ c ∈ s.calls, c.1 ≠ x) → ∀ y ∈ g x, 0 < s.order y ∧ (s.comp y < 0 → s.low x ≤ s.order y)
  edgeCall : ∀ c ∈ s.calls, ∀ y ∈ (g c.1).take c.2, 0 < s.order y ∧ (s.comp y < 0 → s.low c.1 ≤ s.order y)
  lowLe : ∀ x ∈ s.stack, s.low x ≤ s.order x
  lowWit : ∀ x ∈ s.stack, ∃ u ∈ s.stack, s.order u = s.low x ∧ Reach g x u
  finLow : ∀ x ∈ s.stack, (∀ c ∈ s.calls, c.1 ≠ x) → s.low x < s.order x
  callReach : ∀ c ∈ s.calls, ∀ x ∈ s.stack, s.order c.1 ≤ s.order x → Reach g c.1 x
  cover : ∀ x ∈ s.stack, ∃ c ∈ s.calls, s.order c.1 ≤ s.order x
  lowSeg : ∀ c ∈ s.calls, ∀ x ∈ s.stack, s.order c.1 ≤ s.order x → (∀ c' ∈ s.calls, s.order c'.1 ≤ s.order c.1 ∨ s.order x < s.order c'.1) → s.low c.1 ≤ s.low x
  dense : ∀ k : Nat, k < s.comps → ∃ x, s.comp x = k
  comps : s.comps + s.stack.length ≤ s.visits

/-- The start: nothing visited. -/
def init : St := ⟨fun _ => 0, fun _ => 0, fun _ => -1, [], [], 0, 0⟩

theorem Inv.init (n : Nat) (g : Nat → List Nat) : Inv n g init := by
  refine ⟨?_, ?_, ?_, ⟨[], ?_⟩, ?_, ?_, ?_, ?_, ?_, ?_, ?_, ?_, ?_, ?_, ?_, ?_, ?_, ?_, ?_, ?_, ?_, ?_, ?_, ?_⟩ <;> simp [Tj.init]

section
variable {n : Nat} {g : Nat → List Nat} {s : St}

theorem Inv.visits_le (h : Inv n g s) : s.visits ≤ n := by
  obtain ⟨V, hn, hl, hm⟩ := h.count
  rw [← hl]
  have := List.Nodup.length_le_of_subset (l₂ := List.range n) hn (fun x hx => by simpa using h.lt x ((hm x).1 hx))
  simpa using this

theorem Inv.visits_lt (h : Inv n g s) {w : Nat} (hw : w < n) (h0 : s.order w = 0) : s.visits < n := by
  obtain ⟨V, hn, hl, hm⟩ := h.count
  have hnot : w ∉ V := fun hh => by have := (hm w).1 hh; omega
  have := List.Nodup.length_le_of_subset (l₁ := w :: V) (l₂ := List.range n) (List.nodup_cons.2 ⟨hnot, hn⟩) (fun x hx => by
    rcases List.mem_cons.1 hx with rfl | hx
    · simpa using hw
    · simpa using h.lt x ((hm x).1 hx))
  simp at this
  omega

/-- 'visit(w)'. -/
def visit (s : St) (w : Nat) : St :=
  { s with order := upd s.order w (s.visits + 1), low := upd s.low w (s.visits + 1), stack := w :: s.stack, calls := (w, 0) :: s.calls, visits := s.visits + 1 }

/-- The top's index of its next edge goes one on. -/
def bump (s : St) (v k : Nat) (rest : List (Nat × Nat)) : St := { s with calls := (v, k + 1) :: rest }

/-- A visit, from a state in which every call node reaches w (the root: there is none). The bound on the top's index is told apart, since the edge to w counts as met from here on. -/
theorem Inv.visit (h : Inv n g s) {w : Nat} (hw : w < n) (h0 : s.order w = 0) (hr : ∀ c ∈ s.calls, Reach g c.1 w) : Inv n g (visit s w) := by
  have hc : s.comp w < 0 := by
    rcases Int.lt_or_le (s.comp w) 0 with hh | hh
    · exact hh
    · have := h.compVis w hh; omega
  have hns : w ∉ s.stack := fun hh => by have := ((h.onStack w).1 hh).1; omega
  have hne : ∀ x ∈ s.stack, x ≠ w := fun x hx e => hns (e ▸ hx)
  have hcs : ∀ c ∈ s.calls, c.1 ≠ w := fun c hcc => hne _ (h.callsOn c hcc)
  have eo : ∀ x, x ≠ w → upd s.order w (s.visits + 1) x = s.order x := fun x hx => upd_other _ _ _ _ hx
  have el : ∀ x, x ≠ w → upd s.low w (s.visits + 1) x = s.low x := fun x hx => upd_other _ _ _ _ hx
  have eow : upd s.order w (s.visits + 1) w = s.visits + 1 := upd_same _ _ _
  have elw : upd s.low w (s.visits + 1) w = s.visits + 1 := upd_same _ _ _
  have mono : ∀ x, 0 < s.order x → x ≠ w := fun x hx e => by subst e; omega
  constructor
  · intro x hx
    by_cases e : x = w
    · exact e ▸ hw
    · simp only [Tj.visit, eo x e] at hx; exact h.lt x hx
  · intro x
    show upd s.order w (s.visits + 1) x ≤ s.visits + 1
    by_cases e : x = w
    · rw [e, eow]; exact Nat.le_refl _
    · rw [eo x e]; have := h.ole x; omega
  · intro x y hx hxy
    simp only [Tj.visit] at hx hxy
    by_cases e : x = w
    · by_cases e' : y = w
      · rw [e, e']
      · rw [e, eow, eo y e'] at hxy; have := h.ole y; omega
    · by_cases e' : y = w
      · rw [e', eow, eo x e] at hxy; have := h.ole x; omega
      · rw [eo x e] at hx; rw [eo x e, eo y e'] at hxy; exact h.inj x y hx hxy
  · obtain ⟨V, hn, hl, hm⟩ := h.count
    refine ⟨w :: V, List.nodup_cons.2 ⟨fun hh => by have := (hm w).1 hh; omega, hn⟩, by simp [Tj.visit, hl], fun x => ?_⟩
    simp only [Tj.visit, List.mem_cons]
    by_cases e : x = w
    · subst e; simp [eow]
    · rw [eo x e, ← hm x]; simp [e]
  · intro x
    simp only [Tj.visit, List.mem_cons]
    by_cases e : x = w
    · subst e; simp [eow, hc]
    · rw [eo x e, ← h.onStack x]; simp [e]
  · simp only [Tj.visit]
    refine List.pairwise_cons.2 ⟨fun x hx => ?_, ?_⟩
    · rw [eo x (hne x hx), eow]; have := h.ole x; omega
    · refine List.Pairwise.imp_of_mem (fun {a b} ha hb hab => ?_) h.sorted
      rw [eo a (hne a ha), eo b (hne b hb)]; exact hab
  · exact h.compLt
  · exact h.compGe
  · intro x hx
    have := h.compVis x hx
    simp only [Tj.visit]
    rw [eo x (mono x this)]; exact this
  · intro c hcc
    simp only [Tj.visit, List.mem_cons] at hcc ⊢
    rcases hcc with rfl | hcc
    · exact .inl rfl
    · exact .inr (h.callsOn c hcc)
  · simp only [Tj.visit]
    refine List.pairwise_cons.2 ⟨fun c hcc => ?_, ?_⟩
    · rw [eo c.1 (hcs c hcc), eow]; have := h.ole c.1; omega
    · refine List.Pairwise.imp_of_mem (fun {a b} ha hb hab => ?_) h.callsSorted
      rw [eo a.1 (hcs a ha), eo b.1 (hcs b hb)]; exact hab
  · intro c hcc
    simp only [Tj.visit, List.mem_cons] at hcc
    rcases hcc with rfl | hcc
    · exact Nat.zero_le _
    · exact h.next c hcc
  · exact h.doneEdge
  · exact h.doneReach
  · intro x hx hnc y hy
    simp only [Tj.visit, List.mem_cons] at hx hnc ⊢
    have hxw : x ≠ w := fun e => hnc (w, 0) (.inl rfl) e.symm
    have hxs : x ∈ s.stack := hx.resolve_left hxw
    have := h.edgeFin x hxs (fun c hcc => hnc c (.inr hcc)) y hy
    rw [eo y (mono y this.1), el x hxw]; exact this
  · intro c hcc y hy
    simp only [Tj.visit, List.mem_cons] at hcc ⊢
    rcases hcc with rfl | hcc
    · simp at hy
    · have := h.edgeCall c hcc y hy
      rw [eo y (mono y this.1), el c.1 (hcs c hcc)]; exact this
  · intro x hx
    simp only [Tj.visit, List.mem_cons] at hx ⊢
    rcases hx with rfl | hx
    · rw [eow, elw]; exact Nat.le_refl _
    · rw [eo x (hne x hx), el x (hne x hx)]; exact h.lowLe x hx
  · intro x hx
    simp only [Tj.visit, List.mem_cons] at hx ⊢
    rcases hx with rfl | hx
    · exact ⟨x, .inl rfl, by rw [eow, elw], Reach.refl _ _⟩
    · obtain ⟨u, hu, h1, h2⟩ := h.lowWit x hx
      exact ⟨u, .inr hu, by rw [eo u (hne u hu), el x (hne x hx)]; exact h1, h2⟩
  · intro x hx hnc
    simp only [Tj.visit, List.mem_cons] at hx hnc ⊢
    have hxw : x ≠ w := fun e => hnc (w, 0) (.inl rfl) e.symm
    have hxs : x ∈ s.stack := hx.resolve_left hxw
    rw [eo x hxw, el x hxw]; exact h.finLow x hxs (fun c hcc => hnc c (.inr hcc))
  · intro c hcc x hx hle
    simp only [Tj.visit, List.mem_cons] at hcc hx hle
    rcases hcc with rfl | hcc
    · rcases hx with rfl | hx
      · exact Reach.refl _ _
      · rw [eow, eo x (hne x hx)] at hle; have := h.ole x; omega
    · rcases hx with rfl | hx
      · exact hr c hcc
      · rw [eo c.1 (hcs c hcc), eo x (hne x hx)] at hle; exact h.callReach c hcc x hx hle
  · intro x hx
    simp only [Tj.visit, List.mem_cons] at hx ⊢
    rcases hx with rfl | hx
    · exact ⟨(x, 0), .inl rfl, Nat.le_refl _⟩
    · obtain ⟨c, hcc, hle⟩ := h.cover x hx
      exact ⟨c, .inr hcc, by rw [eo c.1 (hcs c hcc), eo x (hne x hx)]; exact hle⟩
  · intro c hcc x hx hle hseg
    simp only [Tj.visit, List.mem_cons] at hcc hx hle hseg ⊢
    rcases hcc with rfl | hcc
    · rcases hx with rfl | hx
      · exact Nat.le_refl _
      · rw [eow, eo x (hne x hx)] at hle; have := h.ole x; omega
    · rcases hx with rfl | hx
      · have := hseg (x, 0) (.inl rfl)
        simp only [eow, eo c.1 (hcs c hcc)] at this
        have := h.ole c.1; omega
      · rw [eo c.1 (hcs c hcc), eo x (hne x hx)] at hle
        rw [el c.1 (hcs c hcc), el x (hne x hx)]
        refine h.lowSeg c hcc x hx hle fun c' hc' => ?_
        have := hseg c' (.inr hc')
        rwa [eo c'.1 (hcs c' hc'), eo c.1 (hcs c hcc), eo x (hne x hx)] at this
  · exact h.dense
  · have := h.comps; simp only [Tj.visit, List.length_cons]; omega

/-- A call's next edge has been met: its end is visited; if it is on the stack, the node's low is no higher than its order. -/
theorem Inv.bumpAt (h : Inv n g s) {v k : Nat} {pre rest : List (Nat × Nat)} (hs : s.calls = pre ++ (v, k) :: rest) (hk : k < (g v).length)
    (hv : 0 < s.order (g v)[k]) (hl : s.comp (g v)[k] < 0 → s.low v ≤ s.order (g v)[k]) : Inv n g { s with calls := pre ++ (v, k + 1) :: rest } := by
  have htop : (v, k) ∈ s.calls := by rw [hs]; simp
  have hold : ∀ c, c ∈ pre ∨ c ∈ rest → c ∈ s.calls := by
    intro c hcc
    rw [hs]
    rcases hcc with hcc | hcc
    · exact List.mem_append_left _ hcc
    · exact List.mem_append_right _ (List.mem_cons_of_mem _ hcc)
  have parts : ∀ j, ∀ c ∈ pre ++ (v, j) :: rest, c = (v, j) ∨ (c ∈ pre ∨ c ∈ rest) := by
    intro j c hcc
    rcases List.mem_append.1 hcc with hcc | hcc
    · exact .inr (.inl hcc)
    · rcases List.mem_cons.1 hcc with hcc | hcc
      · exact .inl hcc
      · exact .inr (.inr hcc)
  have back : ∀ j, ∀ c, c ∈ pre ∨ c ∈ rest → c ∈ pre ++ (v, j) :: rest := by
    intro j c hcc
    rcases hcc with hcc | hcc
    · exact List.mem_append_left _ hcc
    · exact List.mem_append_right _ (List.mem_cons_of_mem _ hcc)
  have hsub : ∀ c ∈ pre ++ (v, k + 1) :: rest, ∃ c' ∈ s.calls, c'.1 = c.1 := by
    intro c hcc
    rcases parts _ c hcc with rfl | hcc
    · exact ⟨_, htop, rfl⟩
    · exact ⟨c, hold c hcc, rfl⟩
  have hsup : ∀ c ∈ s.calls, ∃ c' ∈ pre ++ (v, k + 1) :: rest, c'.1 = c.1 := by
    intro c hcc
    rw [hs] at hcc
    rcases parts _ c hcc with rfl | hcc
    · exact ⟨(v, k + 1), by simp, rfl⟩
    · exact ⟨c, back _ c hcc, rfl⟩
  have hnc : ∀ x, (∀ c ∈ pre ++ (v, k + 1) :: rest, c.1 ≠ x) → ∀ c ∈ s.calls, c.1 ≠ x := by
    intro x hx c hcc e
    obtain ⟨c', h1, h2⟩ := hsup c hcc
    exact hx c' h1 (h2.trans e)
  refine { h with
    callsOn := ?_, callsSorted := ?_, next := ?_, edgeFin := ?_, edgeCall := ?_, finLow := ?_, callReach := ?_, cover := ?_, lowSeg := ?_ }
  · intro c hcc
    obtain ⟨c', h1, h2⟩ := hsub c hcc
    exact h2 ▸ h.callsOn c' h1
  · have h1 := h.callsSorted
    have e : (pre ++ (v, k + 1) :: rest).map (·.1) = s.calls.map (·.1) := by rw [hs]; simp
    have h2 : (s.calls.map (·.1)).Pairwise (fun a b => s.order b < s.order a) := List.pairwise_map.2 h1
    rw [← e] at h2
    exact List.pairwise_map.1 h2
  · intro c hcc
    rcases parts _ c hcc with rfl | hcc
    · exact hk
    · exact h.next c (hold c hcc)
  · intro x hx hx' y hy
    exact h.edgeFin x hx (hnc x hx') y hy
  · intro c hcc y hy
    rcases parts _ c hcc with rfl | hcc
    · rw [List.take_succ_eq_append_getElem hk] at hy
      rcases List.mem_append.1 hy with hy | hy
      · exact h.edgeCall _ htop y hy
      · simp only [List.mem_singleton] at hy
        subst hy
        exact ⟨hv, hl⟩
    · exact h.edgeCall c (hold c hcc) y hy
  · intro x hx hx'
    exact h.finLow x hx (hnc x hx')
  · intro c hcc x hx hle
    obtain ⟨c', h1, h2⟩ := hsub c hcc
    rw [← h2] at hle ⊢
    exact h.callReach c' h1 x hx hle
  · intro x hx
    obtain ⟨c, h1, h2⟩ := h.cover x hx
    obtain ⟨c', h3, h4⟩ := hsup c h1
    exact ⟨c', h3, by rw [h4]; exact h2⟩
  · intro c hcc x hx hle hseg
    obtain ⟨c', h1, h2⟩ := hsub c hcc
    show s.low c.1 ≤ s.low x
    rw [← h2]
    refine h.lowSeg c' h1 x hx (by rw [h2]; exact hle) fun c'' h3 => ?_
    obtain ⟨c3, h4, h5⟩ := hsup c'' h3
    have := hseg c3 h4
    rw [h5, ← h2] at this
    exact this

/-- The top's next edge has been met. -/
theorem Inv.bump (h : Inv n g s) {v k : Nat} {rest : List (Nat × Nat)} (hs : s.calls = (v, k) :: rest) (hk : k < (g v).length)
    (hv : 0 < s.order (g v)[k]) (hl : s.comp (g v)[k] < 0 → s.low v ≤ s.order (g v)[k]) : Inv n g (bump s v k rest) :=
  h.bumpAt (pre := []) hs hk hv hl

/-- The low of a call node is lowered to the order of a node of the stack that it reaches. -/
def lower (s : St) (v m : Nat) : St := { s with low := upd s.low v (min (s.low v) m) }

theorem Inv.lower (h : Inv n g s) {v u : Nat} {m : Nat} (hcall : ∃ c ∈ s.calls, c.1 = v) (hu : u ∈ s.stack) (hm : s.order u = m) (hr : Reach g v u) : Inv n g (lower s v m) := by
  have ev : upd s.low v (min (s.low v) m) v = min (s.low v) m := upd_same _ _ _
  have eo : ∀ x, x ≠ v → upd s.low v (min (s.low v) m) x = s.low x := fun x hx => upd_other _ _ _ _ hx
  have hle : ∀ x, upd s.low v (min (s.low v) m) x ≤ s.low x := by
    intro x
    by_cases e : x = v
    · subst e; rw [ev]; omega
    · rw [eo x e]; exact Nat.le_refl _
  obtain ⟨cv, hcv, hcve⟩ := hcall
  refine { h with edgeFin := ?_, edgeCall := ?_, lowLe := ?_, lowWit := ?_, finLow := ?_, lowSeg := ?_ }
  · intro x hx hnc y hy
    have := h.edgeFin x hx hnc y hy
    exact ⟨this.1, fun hc => Nat.le_trans (hle x) (this.2 hc)⟩
  · intro c hcc y hy
    have := h.edgeCall c hcc y hy
    exact ⟨this.1, fun hc => Nat.le_trans (hle c.1) (this.2 hc)⟩
  · intro x hx
    exact Nat.le_trans (hle x) (h.lowLe x hx)
  · intro x hx
    show ∃ u ∈ s.stack, s.order u = upd s.low v (min (s.low v) m) x ∧ Reach g x u
    by_cases e : x = v
    · subst e
      rw [ev]
      by_cases hmin : s.low x ≤ m
      · obtain ⟨u', h1, h2, h3⟩ := h.lowWit x hx
        exact ⟨u', h1, by omega, h3⟩
      · exact ⟨u, hu, by omega, hr⟩
    · rw [eo x e]; exact h.lowWit x hx
  · intro x hx hnc
    exact Nat.lt_of_le_of_lt (hle x) (h.finLow x hx hnc)
  · intro c hcc x hx hco hseg
    show upd s.low v (min (s.low v) m) c.1 ≤ upd s.low v (min (s.low v) m) x
    by_cases e : x = v
    · subst e
      by_cases e' : c.1 = x
      · rw [e']; exact Nat.le_refl _
      · -- c lies below v though v itself is a call node: the segment's condition says no
        have := hseg cv hcv
        rw [hcve] at this
        rcases this with this | this
        · have h1 := h.callsOn c hcc
          have h2 := (h.onStack _).1 h1
          exact absurd (h.inj _ _ h2.1 (Nat.le_antisymm hco this)) e'
        · exact absurd this (Nat.lt_irrefl _)
    · rw [eo x e]
      exact Nat.le_trans (hle c.1) (h.lowSeg c hcc x hx hco hseg)

theorem Inv.top_order (h : Inv n g s) {v k : Nat} {rest : List (Nat × Nat)} (hs : s.calls = (v, k) :: rest) : ∀ c ∈ rest, s.order c.1 < s.order v := by
  have := h.callsSorted
  rw [hs, List.pairwise_cons] at this
  exact this.1

/-- The top has met all its edges and stays on the stack: its low has been handed to its parent. -/
theorem Inv.drop (h : Inv n g s) {v k p j : Nat} {rest : List (Nat × Nat)} (hs : s.calls = (v, k) :: (p, j) :: rest) (hk : k = (g v).length) (hlt : s.low v < s.order v) (hpv : s.low p ≤ s.low v) :
    Inv n g { s with calls := (p, j) :: rest } := by
  have htop : (v, k) ∈ s.calls := by rw [hs]; simp
  have hpm : (p, j) ∈ s.calls := by rw [hs]; simp
  have hin : ∀ c ∈ (p, j) :: rest, c ∈ s.calls := fun c hcc => by rw [hs]; exact List.mem_cons_of_mem _ hcc
  have hto := h.top_order hs
  have hvs := h.callsOn _ htop
  have hps := h.callsOn _ hpm
  have hpo : s.order p < s.order v := hto (p, j) (by simp)
  have hsort : ∀ c ∈ rest, s.order c.1 < s.order p := by
    have := h.callsSorted
    rw [hs, List.pairwise_cons, List.pairwise_cons] at this
    exact this.2.1
  have hnc : ∀ x, x ≠ v → (∀ c ∈ (p, j) :: rest, c.1 ≠ x) → ∀ c ∈ s.calls, c.1 ≠ x := by
    intro x hx hh c hcc
    rw [hs] at hcc
    rcases List.mem_cons.1 hcc with rfl | hcc
    · exact fun e => hx e.symm
    · exact hh c hcc
  refine { h with
    callsOn := fun c hcc => h.callsOn c (hin c hcc), callsSorted := ?_, next := fun c hcc => h.next c (hin c hcc), edgeFin := ?_, edgeCall := fun c hcc => h.edgeCall c (hin c hcc), finLow := ?_,
    callReach := fun c hcc => h.callReach c (hin c hcc), cover := ?_, lowSeg := ?_ }
  · have := h.callsSorted
    rw [hs, List.pairwise_cons] at this
    exact this.2
  · intro x hx hx' y hy
    by_cases e : x = v
    · subst e
      exact h.edgeCall _ htop y (by rw [hk, List.take_length]; exact hy)
    · exact h.edgeFin x hx (hnc x e hx') y hy
  · intro x hx hx'
    by_cases e : x = v
    · subst e; exact hlt
    · exact h.finLow x hx (hnc x e hx')
  · intro x hx
    obtain ⟨c, h1, h2⟩ := h.cover x hx
    rw [hs] at h1
    rcases List.mem_cons.1 h1 with rfl | h1
    · exact ⟨(p, j), by simp, Nat.le_trans (Nat.le_of_lt hpo) h2⟩
    · exact ⟨c, h1, h2⟩
  · intro c hcc x hx hco hseg
    show s.low c.1 ≤ s.low x
    by_cases hxv : s.order x < s.order v
    · refine h.lowSeg c (hin c hcc) x hx hco fun c' hc' => ?_
      rw [hs] at hc'
      rcases List.mem_cons.1 hc' with rfl | hc'
      · exact .inr hxv
      · exact hseg c' hc'
    · have hcp : c.1 = p := by
        have h1 := hseg (p, j) (by simp)
        have h1' : s.order p ≤ s.order c.1 := h1.resolve_right (fun hh => by have : s.order x < s.order p := hh; omega)
        rcases List.mem_cons.1 hcc with rfl | hcc'
        · rfl
        · have := hsort c hcc'; omega
      rw [hcp]
      refine Nat.le_trans hpv (h.lowSeg (v, k) htop x hx (Nat.le_of_not_lt hxv) fun c' hc' => ?_)
      rw [hs] at hc'
      rcases List.mem_cons.1 hc' with rfl | hc'
      · exact .inl (Nat.le_refl _)
      · exact .inl (Nat.le_of_lt (hto c' hc'))

/-- The top has met all its edges, and its low lies below its order: it stays on the stack, and its parent's low is lowered. -/
theorem Inv.finish (h : Inv n g s) {v k p j : Nat} {rest : List (Nat × Nat)} (hs : s.calls = (v, k) :: (p, j) :: rest) (hk : k = (g v).length) (hlt : s.low v < s.order v) :
    Inv n g { s with calls := (p, j) :: rest, low := upd s.low p (min (s.low p) (s.low v)) } := by
  have htop : (v, k) ∈ s.calls := by rw [hs]; simp
  have hpm : (p, j) ∈ s.calls := by rw [hs]; simp
  have hvs := h.callsOn _ htop
  have hpo : s.order p < s.order v := h.top_order hs (p, j) (by simp)
  have hne : v ≠ p := fun e => by subst e; omega
  obtain ⟨u, hu, hm, hr⟩ := h.lowWit v hvs
  have h1 := h.lower (v := p) (u := u) (m := s.low v) ⟨_, hpm, rfl⟩ hu hm ((h.callReach _ hpm v hvs (Nat.le_of_lt hpo)).trans hr)
  have hv : upd s.low p (min (s.low p) (s.low v)) v = s.low v := upd_other _ _ _ _ hne
  have hp : upd s.low p (min (s.low p) (s.low v)) p = min (s.low p) (s.low v) := upd_same _ _ _
  exact h1.drop (v := v) (k := k) (p := p) (j := j) (rest := rest) hs hk (by show upd s.low p (min (s.low p) (s.low v)) v < s.order v; rw [hv]; exact hlt)
    (by show upd s.low p (min (s.low p) (s.low v)) p ≤ upd s.low p (min (s.low p) (s.low v)) v; rw [hv, hp]; omega)

/-- Whoever is alone on the calls has its own order for its low. -/
theorem Inv.alone (h : Inv n g s) {v k : Nat} (hs : s.calls = [(v, k)]) : s.low v = s.order v := by
  have htop : (v, k) ∈ s.calls := by rw [hs]; simp
  have hvs := h.callsOn _ htop
  obtain ⟨u, hu, hm, _⟩ := h.lowWit v hvs
  obtain ⟨c, hc, hle⟩ := h.cover u hu
  rw [hs] at hc
  simp at hc
  subst hc
  have := h.lowLe v hvs
  have : s.order v ≤ s.order u := hle
  omega

/-- Where the low of the top is its order, the parent's low is not turned by it. -/
theorem Inv.parent_same (h : Inv n g s) {v k p j : Nat} {rest : List (Nat × Nat)} (hs : s.calls = (v, k) :: (p, j) :: rest) (he : s.low v = s.order v) : min (s.low p) (s.low v) = s.low p := by
  have hpm : (p, j) ∈ s.calls := by rw [hs]; simp
  have hpo : s.order p < s.order v := h.top_order hs (p, j) (by simp)
  have := h.lowLe p (h.callsOn _ hpm)
  omega

/-- The component is taken off the stack. -/
def pop (s : St) (seg post : List Nat) (rest : List (Nat × Nat)) : St :=
  { s with calls := rest, stack := post, comp := fun x => if x ∈ seg then (s.comps : Int) else s.comp x, comps := s.comps + 1 }

theorem Inv.pop (h : Inv n g s) {v k : Nat} {rest : List (Nat × Nat)} {pre post : List Nat} (hs : s.calls = (v, k) :: rest) (hk : k = (g v).length) (he : s.low v = s.order v) (hst : s.stack = pre ++ v :: post) :
    Inv n g (pop s (pre ++ [v]) post rest) := by
  have htop : (v, k) ∈ s.calls := by rw [hs]; simp
  have hin : ∀ c ∈ rest, c ∈ s.calls := fun c hcc => by rw [hs]; exact List.mem_cons_of_mem _ hcc
  have hto := h.top_order hs
  have hvs := h.callsOn _ htop
  have hsort := h.sorted
  rw [hst, List.pairwise_append, List.pairwise_cons] at hsort
  obtain ⟨hs1, ⟨hs2, hs3⟩, hs4⟩ := hsort
  have seg_in : ∀ x ∈ pre ++ [v], x ∈ s.stack ∧ s.order v ≤ s.order x := by
    intro x hx
    rcases List.mem_append.1 hx with hx | hx
    · exact ⟨by rw [hst]; exact List.mem_append_left _ hx, Nat.le_of_lt (hs4 x hx v (by simp))⟩
    · simp at hx; subst hx; exact ⟨hvs, Nat.le_refl _⟩
  have post_in : ∀ x ∈ post, x ∈ s.stack ∧ s.order x < s.order v := fun x hx => ⟨by rw [hst]; simp [hx], hs2 x hx⟩
  have split : ∀ x ∈ s.stack, x ∈ pre ++ [v] ∨ x ∈ post := by
    intro x hx
    rw [hst] at hx
    simp at hx ⊢
    rcases hx with hx | hx | hx
    · exact .inl (.inl hx)
    · exact .inl (.inr hx)
    · exact .inr hx
  have to_seg : ∀ x ∈ s.stack, s.order v ≤ s.order x → x ∈ pre ++ [v] := fun x hx hle => (split x hx).resolve_right fun hp => by have := (post_in x hp).2; omega
  have to_post : ∀ x ∈ s.stack, s.order x < s.order v → x ∈ post := fun x hx hlt => (split x hx).resolve_left fun hp => by have := (seg_in x hp).2; omega
  have not_both : ∀ x ∈ post, x ∉ pre ++ [v] := fun x hp hq => by have := (post_in x hp).2; have := (seg_in x hq).2; omega
  have low_seg : ∀ x ∈ pre ++ [v], s.order v ≤ s.low x := by
    intro x hx
    rw [← he]
    refine h.lowSeg (v, k) htop x (seg_in x hx).1 (seg_in x hx).2 fun c' hc' => ?_
    rw [hs] at hc'
    rcases List.mem_cons.1 hc' with rfl | hc'
    · exact .inl (Nat.le_refl _)
    · exact .inl (Nat.le_of_lt (hto c' hc'))
  have not_call : ∀ x ∈ pre ++ [v], x ≠ v → ∀ c ∈ s.calls, c.1 ≠ x := by
    intro x hx hne c hcc e
    rw [hs] at hcc
    rcases List.mem_cons.1 hcc with rfl | hcc
    · exact hne e.symm
    · have := hto c hcc; rw [e] at this; have := (seg_in x hx).2; omega
  have edges : ∀ x ∈ pre ++ [v], ∀ y ∈ g x, 0 < s.order y ∧ (s.comp y < 0 → y ∈ pre ++ [v]) := by
    intro x hx y hy
    have key : 0 < s.order y ∧ (s.comp y < 0 → s.low x ≤ s.order y) := by
      by_cases e : x = v
      · subst e
        exact h.edgeCall _ htop y (by rw [hk, List.take_length]; exact hy)
      · exact h.edgeFin x (seg_in x hx).1 (not_call x hx e) y hy
    refine ⟨key.1, fun hc => to_seg y ((h.onStack y).2 ⟨key.1, hc⟩) (Nat.le_trans (low_seg x hx) (key.2 hc))⟩
  have to_v : ∀ m, ∀ x ∈ pre ++ [v], s.order x ≤ m → Reach g x v := by
    intro m
    induction m with
    | zero =>
      intro x hx hm
      have := ((h.onStack x).1 (seg_in x hx).1).1
      omega
    | succ m ih =>
      intro x hx hm
      by_cases e : x = v
      · subst e; exact Reach.refl _ _
      · have hlt := h.finLow x (seg_in x hx).1 (not_call x hx e)
        obtain ⟨u, hu, h1, h2⟩ := h.lowWit x (seg_in x hx).1
        have := low_seg x hx
        exact h2.trans (ih u (to_seg u hu (by omega)) (by omega))
  have from_v : ∀ x ∈ pre ++ [v], Reach g v x := fun x hx => h.callReach (v, k) htop x (seg_in x hx).1 (seg_in x hx).2
  have cin : ∀ x, x ∈ pre ++ [v] → (fun x => if x ∈ pre ++ [v] then (s.comps : Int) else s.comp x) x = s.comps := fun x hx => by simp only [hx, if_true]
  have cout : ∀ x, x ∉ pre ++ [v] → (fun x => if x ∈ pre ++ [v] then (s.comps : Int) else s.comp x) x = s.comp x := fun x hx => by simp only [hx, if_false]
  generalize hC : (fun x => if x ∈ pre ++ [v] then (s.comps : Int) else s.comp x) = C at cin cout
  have hpop : Tj.pop s (pre ++ [v]) post rest = { s with calls := rest, stack := post, comp := C, comps := s.comps + 1 } := by unfold Tj.pop; rw [hC]
  rw [hpop]
  have seg_neg : ∀ x ∈ pre ++ [v], s.comp x < 0 := fun x hx => ((h.onStack x).1 (seg_in x hx).1).2
  have c_neg : ∀ x, C x < 0 → s.comp x < 0 ∧ x ∉ pre ++ [v] := by
    intro x hx
    by_cases e : x ∈ pre ++ [v]
    · rw [cin x e] at hx; omega
    · rw [cout x e] at hx; exact ⟨hx, e⟩
  have post_c : ∀ x ∈ post, C x = s.comp x := fun x hx => cout x (not_both x hx)
  constructor
  · exact h.lt
  · exact h.ole
  · exact h.inj
  · exact h.count
  · intro x
    constructor
    · intro hx
      have := (h.onStack x).1 (post_in x hx).1
      exact ⟨this.1, by show C x < 0; rw [post_c x hx]; exact this.2⟩
    · rintro ⟨h1, h2⟩
      have := c_neg x h2
      exact (split x ((h.onStack x).2 ⟨h1, this.1⟩)).resolve_left this.2
  · exact hs3
  · intro x
    show C x < ((s.comps + 1 : Nat) : Int)
    by_cases e : x ∈ pre ++ [v]
    · rw [cin x e]; omega
    · rw [cout x e]; have := h.compLt x; omega
  · intro x
    show -1 ≤ C x
    by_cases e : x ∈ pre ++ [v]
    · rw [cin x e]; omega
    · rw [cout x e]; exact h.compGe x
  · intro x hx
    by_cases e : x ∈ pre ++ [v]
    · exact ((h.onStack x).1 (seg_in x e).1).1
    · exact h.compVis x (by rw [← cout x e]; exact hx)
  · intro c hcc
    exact to_post _ (h.callsOn c (hin c hcc)) (hto c hcc)
  · have := h.callsSorted
    rw [hs, List.pairwise_cons] at this
    exact this.2
  · exact fun c hcc => h.next c (hin c hcc)
  · intro x hx y hy
    show 0 ≤ C y ∧ C y ≤ C x
    have hx' : 0 ≤ C x := hx
    by_cases e : x ∈ pre ++ [v]
    · rw [cin x e]
      by_cases ey : y ∈ pre ++ [v]
      · rw [cin y ey]; omega
      · rw [cout y ey]
        have := edges x e y hy
        have hy0 : ¬ s.comp y < 0 := fun hh => ey (this.2 hh)
        have := h.compLt y
        omega
    · rw [cout x e] at hx' ⊢
      have := h.doneEdge x hx' y hy
      have ey : y ∉ pre ++ [v] := fun hh => by have := seg_neg y hh; omega
      rw [cout y ey]; exact this
  · intro x y hx hxy
    have hx' : 0 ≤ C x := hx
    have hxy' : C x = C y := hxy
    by_cases e : x ∈ pre ++ [v]
    · by_cases ey : y ∈ pre ++ [v]
      · exact (to_v _ x e (Nat.le_refl _)).trans (from_v y ey)
      · rw [cin x e, cout y ey] at hxy'; have := h.compLt y; omega
    · by_cases ey : y ∈ pre ++ [v]
      · rw [cout x e, cin y ey] at hxy'; have := h.compLt x; omega
      · rw [cout x e] at hx' hxy'; rw [cout y ey] at hxy'; exact h.doneReach x y hx' hxy'
  · intro x hx hnc y hy
    have hxp := post_in x hx
    have hx' : ∀ c ∈ s.calls, c.1 ≠ x := by
      intro c hcc e
      rw [hs] at hcc
      rcases List.mem_cons.1 hcc with rfl | hcc
      · have : v = x := e; subst this; omega
      · exact hnc c hcc e
    have := h.edgeFin x hxp.1 hx' y hy
    exact ⟨this.1, fun hc => this.2 (c_neg y hc).1⟩
  · intro c hcc y hy
    have := h.edgeCall c (hin c hcc) y hy
    exact ⟨this.1, fun hc => this.2 (c_neg y hc).1⟩
  · exact fun x hx => h.lowLe x (post_in x hx).1
  · intro x hx
    obtain ⟨u, hu, h1, h2⟩ := h.lowWit x (post_in x hx).1
    refine ⟨u, to_post u hu ?_, h1, h2⟩
    have := h.lowLe x (post_in x hx).1
    have := (post_in x hx).2
    omega
  · intro x hx hnc
    refine h.finLow x (post_in x hx).1 fun c hcc e => ?_
    rw [hs] at hcc
    rcases List.mem_cons.1 hcc with rfl | hcc
    · have : v = x := e; subst this; have := (post_in v hx).2; omega
    · exact hnc c hcc e
  · exact fun c hcc x hx hle => h.callReach c (hin c hcc) x (post_in x hx).1 hle
  · intro x hx
    obtain ⟨c, h1, h2⟩ := h.cover x (post_in x hx).1
    rw [hs] at h1
    rcases List.mem_cons.1 h1 with rfl | h1
    · have := (post_in x hx).2; have : s.order v ≤ s.order x := h2; omega
    · exact ⟨c, h1, h2⟩
  · intro c hcc x hx hco hseg
    refine h.lowSeg c (hin c hcc) x (post_in x hx).1 hco fun c' hc' => ?_
    rw [hs] at hc'
    rcases List.mem_cons.1 hc' with rfl | hc'
    · exact .inr (post_in x hx).2
    · exact hseg c' hc'
  · intro c hc
    rcases Nat.lt_or_ge c s.comps with hh | hh
    · obtain ⟨x, hx⟩ := h.dense c hh
      refine ⟨x, ?_⟩
      show C x = c
      rw [cout x (fun e => by have := seg_neg x e; omega)]; exact hx
    · have : c = s.comps := by have : c < s.comps + 1 := hc; omega
      exact ⟨v, by show C v = c; rw [cin v (by simp), this]⟩
  · have := h.comps
    rw [hst] at this
    simp at this
    show s.comps + 1 + post.length ≤ s.visits
    omega

/-- WHAT THE RESULT IS: the numbers of the strongly connected components, dense from 0 on, in reverse topological order. -/
structure Good (n : Nat) (g : Nat → List Nat) (comp : Nat → Int) (k : Nat) : Prop where
  le : k ≤ n
  range : ∀ x, x < n → 0 ≤ comp x ∧ comp x < k
  dense : ∀ c : Nat, c < k → ∃ x, x < n ∧ comp x = c
  edge : ∀ x, x < n → ∀ y ∈ g x, comp y ≤ comp x
  reach : ∀ x y, x < n → y < n → comp x = comp y → Reach g x y

theorem Inv.empty (h : Inv n g s) (hc : s.calls = []) : s.stack = [] := by
  cases hst : s.stack with
  | nil => rfl
  | cons x l =>
    obtain ⟨c, h1, _⟩ := h.cover x (by rw [hst]; simp)
    rw [hc] at h1
    simp at h1

theorem Inv.final (h : Inv n g s) (hc : s.calls = []) (hall : ∀ x, x < n → 0 < s.order x) : Good n g s.comp s.comps := by
  have hst := h.empty hc
  have hpos : ∀ x, x < n → 0 ≤ s.comp x := by
    intro x hx
    rcases Int.lt_or_le (s.comp x) 0 with hh | hh
    · have := (h.onStack x).2 ⟨hall x hx, hh⟩
      rw [hst] at this
      simp at this
    · exact hh
  refine ⟨?_, fun x hx => ⟨hpos x hx, h.compLt x⟩, ?_, fun x hx y hy => (h.doneEdge x (hpos x hx) y hy).2, fun x y hx _ he => h.doneReach x y (hpos x hx) he⟩
  · have := h.comps; have := h.visits_le; omega
  · intro c hcc
    obtain ⟨x, hx⟩ := h.dense c hcc
    exact ⟨x, h.lt x (h.compVis x (by omega)), hx⟩

/-- The top's next edge leads to a node that is not yet visited. -/
theorem Inv.bumpVisit (h : Inv n g s) {v k t : Nat} {rest : List (Nat × Nat)} (hs : s.calls = (v, k) :: rest) (hk : k < (g v).length) (ht : t = (g v)[k]) (htn : t < n) (hz : s.order t = 0) :
    Inv n g (Tj.visit (Tj.bump s v k rest) t) := by
  have htop : (v, k) ∈ s.calls := by rw [hs]; simp
  have hvs := h.callsOn _ htop
  have hto := h.top_order hs
  have hne : v ≠ t := fun e => by subst e; have := ((h.onStack v).1 hvs).1; omega
  have h1 := h.visit htn hz (fun c hc => by
    have hle : s.order c.1 ≤ s.order v := by
      rw [hs] at hc
      rcases List.mem_cons.1 hc with rfl | hc
      · exact Nat.le_refl _
      · exact Nat.le_of_lt (hto c hc)
    exact (h.callReach c hc v hvs hle).step (by rw [ht]; exact List.getElem_mem hk))
  have e : (Tj.visit s t).calls = [(t, 0)] ++ (v, k) :: rest := by show (t, 0) :: s.calls = _; rw [hs]; rfl
  have eo : (Tj.visit s t).order t = s.visits + 1 := upd_same _ _ _
  refine h1.bumpAt e hk (by rw [← ht, eo]; omega) fun _ => ?_
  rw [← ht, eo]
  show upd s.low t (s.visits + 1) v ≤ s.visits + 1
  rw [upd_other _ _ _ _ hne]
  have h2 := h.lowLe v hvs
  have h3 := h.ole v
  omega

/-- The top's next edge leads to a node of the stack: the top's low is lowered. -/
theorem Inv.bumpLower (h : Inv n g s) {v k t : Nat} {rest : List (Nat × Nat)} (hs : s.calls = (v, k) :: rest) (hk : k < (g v).length) (ht : t = (g v)[k]) (hz : 0 < s.order t) (hc : s.comp t < 0) :
    Inv n g { Tj.bump s v k rest with low := upd s.low v (min (s.low v) (s.order t)) } := by
  have htop : (v, k) ∈ s.calls := by rw [hs]; simp
  have h1 := h.lower (v := v) (u := t) (m := s.order t) ⟨_, htop, rfl⟩ ((h.onStack t).2 ⟨hz, hc⟩) rfl ((Reach.refl g v).step (by rw [ht]; exact List.getElem_mem hk))
  have h2 := h1.bump (v := v) (k := k) (rest := rest) hs hk (by rw [← ht]; exact hz) (fun _ => by
    rw [← ht]
    show upd s.low v (min (s.low v) (s.order t)) v ≤ s.order t
    rw [upd_same]; omega)
  exact h2

/-- No node stands twice among the calls. -/
theorem Inv.calls_len (h : Inv n g s) : s.calls.length ≤ n := by
  have hnd : (s.calls.map (·.1)).Nodup := by
    refine List.pairwise_map.2 ?_
    refine List.Pairwise.imp_of_mem (fun {a b} _ _ hab e => ?_) h.callsSorted
    rw [e] at hab
    exact Nat.lt_irrefl _ hab
  have := List.Nodup.length_le_of_subset (l₂ := List.range n) hnd (fun x hx => by
    obtain ⟨c, hc, rfl⟩ := List.mem_map.1 hx
    simpa using h.lt _ ((h.onStack _).1 (h.callsOn c hc)).1)
  simpa using this

theorem Inv.stack_len (h : Inv n g s) : s.stack.length ≤ n := by
  have := h.comps; have := h.visits_le; omega

theorem Inv.top_lt (h : Inv n g s) {v k : Nat} {rest : List (Nat × Nat)} (hs : s.calls = (v, k) :: rest) : v < n ∧ k ≤ (g v).length := by
  have htop : (v, k) ∈ s.calls := by rw [hs]; simp
  exact ⟨h.lt _ ((h.onStack _).1 (h.callsOn _ htop)).1, h.next _ htop⟩

/-- The measure of the rounds that are to come. -/
def todo (n D : Nat) (g : Nat → List Nat) (s : St) : Nat := (n - s.visits) * (D + 2) + (s.calls.map fun c => (g c.1).length - c.2 + 1).sum

theorem todo_visit {D : Nat} {w v k : Nat} {rest : List (Nat × Nat)} (hs : s.calls = (v, k) :: rest) (hk : k < (g v).length) (hv : s.visits < n) (hD : (g w).length ≤ D) :
    todo n D g (visit (bump s v k rest) w) < todo n D g s := by
  simp only [todo, visit, bump, hs, List.map_cons, List.sum_cons]
  have e : n - s.visits = (n - (s.visits + 1)) + 1 := by omega
  rw [e, Nat.add_mul]
  omega

theorem todo_pop {D : Nat} {v k : Nat} {rest : List (Nat × Nat)} (hs : s.calls = (v, k) :: rest) (s' : St) (h1 : s'.calls = rest) (h2 : s'.visits = s.visits) : todo n D g s' < todo n D g s := by
  simp only [todo, hs, h1, h2, List.map_cons, List.sum_cons]
  omega

theorem todo_bump {D : Nat} {v k : Nat} {rest : List (Nat × Nat)} (hs : s.calls = (v, k) :: rest) (hk : k < (g v).length) :
    todo n D g (bump s v k rest) < todo n D g s := by
  simp only [todo, bump, hs, List.map_cons, List.sum_cons]
  omega

end
end Go.Proofs.Qxb6600569a.Tj
