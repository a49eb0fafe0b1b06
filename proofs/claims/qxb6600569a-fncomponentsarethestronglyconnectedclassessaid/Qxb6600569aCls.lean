/-
  THE PLAIN LAWS OF 'zzClassesReached': a search from the first node of every class, inside the classes, reaches every node. No Go in sight.
-/
import Derived.Test.Qxb6600569aRev
namespace Go.Proofs.Qxb6600569a
open Tj (upd upd_same upd_other Reach)

/-- Whoever is of one class is joined by a way inside the class. -/
def Linked (n : Nat) (g : Nat → List Nat) (c : Nat → Nat) : Prop :=
  ∀ x y, x < n → y < n → c x = c y → ∀ P : Nat → Prop, P x → (∀ a b, a < n → P a → b ∈ g a → c b = c a → P b) → P y

theorem GoodN.linked {n : Nat} {g : Nat → List Nat} {c : Nat → Nat} {k : Nat} (h : GoodN n g c k) (hin : ∀ u, u < n → ∀ v ∈ g u, v < n) : Linked n g c := by
  intro x y hx hy he P hP hs
  have hr := h.reach x y hx hy he
  have := hr (fun z => z < n ∧ c z ≤ c x ∧ (Reach g z y → P z)) ⟨hx, Nat.le_refl _, fun _ => hP⟩ (by
    rintro a b ⟨ha, hca, hpa⟩ hb
    have hbn := hin a ha b hb
    have hcb := h.edge a ha b hb
    refine ⟨hbn, Nat.le_trans hcb hca, fun hby => ?_⟩
    have hay : Reach g a y := ((Reach.refl g a).step hb).trans hby
    have h1 := (h.down hin hbn hby).2
    exact hs a b ha (hpa hay) hb (by omega))
  exact this.2.2 (Reach.refl _ _)

theorem GoodN.linked_rev {n : Nat} {g r : Nat → List Nat} {c : Nat → Nat} {k : Nat} (h : GoodN n g c k) (hin : ∀ u, u < n → ∀ v ∈ g u, v < n) (hrev : IsRev n g r) : Linked n r c := by
  intro x y hx hy he P hP hs
  have hr : Reach r x y := reach_rev hrev hin hy (h.reach y x hy hx he.symm)
  have cls : ∀ z, z < n → Reach r x z → Reach r z y → c z = c x := by
    intro z hz h1 h2
    have a := (h.down hin hz (reach_back hrev h1)).2
    have b := (h.down hin hy (reach_back hrev h2)).2
    omega
  have := hr (fun z => z < n ∧ Reach r x z ∧ (Reach r z y → P z)) ⟨hx, Reach.refl _ _, fun _ => hP⟩ (by
    rintro a b ⟨ha, hxa, hpa⟩ hb
    have hbn := rev_in hrev a ha b hb
    have hxb := hxa.step hb
    refine ⟨hbn, hxb, fun hby => ?_⟩
    have hay : Reach r a y := ((Reach.refl r a).step hb).trans hby
    exact hs a b ha (hpa hay) hb ((cls b hbn hxb hby).trans (cls a ha hxa hay).symm))
  exact this.2.2 (Reach.refl _ _)

/-- When v nodes have been asked whether they are the first of their class. -/
structure Bfs1 (c : Nat → Nat) (v : Nat) (has rea : Nat → Bool) (q : List Nat) : Prop where
  mem : ∀ x, rea x = true ↔ x ∈ q
  nodup : q.Nodup
  lt : ∀ x ∈ q, x < v
  rep : ∀ u, u < v → ∃ x ∈ q, c x = c u
  cls : ∀ j, has j = true ↔ ∃ u, u < v ∧ c u = j

theorem Bfs1.start (c : Nat → Nat) : Bfs1 c 0 (fun _ => false) (fun _ => false) [] :=
  ⟨fun x => by simp, List.nodup_nil, fun x hx => by simp at hx, fun u hu => by omega, fun j => by simp⟩

section
variable {c : Nat → Nat} {v : Nat} {has rea : Nat → Bool} {q : List Nat}

theorem Bfs1.old (h : Bfs1 c v has rea q) (hh : has (c v) = true) : Bfs1 c (v + 1) has rea q := by
  obtain ⟨u0, hu0, he⟩ := (h.cls (c v)).1 hh
  refine ⟨h.mem, h.nodup, fun x hx => by have := h.lt x hx; omega, fun u hu => ?_, fun j => ?_⟩
  · by_cases e : u = v
    · subst e
      obtain ⟨x, hx, hc⟩ := h.rep u0 hu0
      exact ⟨x, hx, hc.trans he⟩
    · exact h.rep u (by omega)
  · rw [h.cls j]
    constructor
    · rintro ⟨u, hu, e⟩; exact ⟨u, by omega, e⟩
    · rintro ⟨u, hu, e⟩
      by_cases eu : u = v
      · subst eu; exact ⟨u0, hu0, he.trans e⟩
      · exact ⟨u, by omega, e⟩

theorem Bfs1.new (h : Bfs1 c v has rea q) : Bfs1 c (v + 1) (upd has (c v) true) (upd rea v true) (q ++ [v]) := by
  have hnv : v ∉ q := fun hv => by have := h.lt v hv; omega
  refine ⟨fun x => ?_, ?_, fun x hx => ?_, fun u hu => ?_, fun j => ?_⟩
  · by_cases e : x = v
    · subst e; rw [upd_same]; simp
    · rw [upd_other _ _ _ _ e, h.mem x]; simp [e]
  · rw [List.nodup_append]
    exact ⟨h.nodup, by simp, fun a ha b hb => by simp at hb; subst hb; exact fun e => hnv (e ▸ ha)⟩
  · rcases List.mem_append.1 hx with hx | hx
    · have := h.lt x hx; omega
    · simp at hx; omega
  · by_cases e : u = v
    · subst e; exact ⟨u, by simp, rfl⟩
    · obtain ⟨x, hx, hc⟩ := h.rep u (by omega)
      exact ⟨x, List.mem_append_left _ hx, hc⟩
  · by_cases e : j = c v
    · subst e; rw [upd_same]; simp; exact ⟨v, by omega, rfl⟩
    · rw [upd_other _ _ _ _ e, h.cls j]
      constructor
      · rintro ⟨u, hu, e'⟩; exact ⟨u, by omega, e'⟩
      · rintro ⟨u, hu, e'⟩
        exact ⟨u, by
          have : u ≠ v := fun eu => e (by rw [← e', eu])
          omega, e'⟩
end

/-- The search, when the queue's first 'head' nodes have been gone through, and k edges of the next. -/
structure Bfs2 (n : Nat) (g : Nat → List Nat) (c : Nat → Nat) (head k : Nat) (rea : Nat → Bool) (q : List Nat) : Prop where
  mem : ∀ x, rea x = true ↔ x ∈ q
  nodup : q.Nodup
  lt : ∀ x ∈ q, x < n
  rep : ∀ u, u < n → ∃ x ∈ q, c x = c u
  hd : head ≤ q.length
  closed : ∀ i (hi : i < q.length), i < head → ∀ y ∈ g q[i], c y = c q[i] → y ∈ q
  part : ∀ hi : head < q.length, ∀ y ∈ (g q[head]).take k, c y = c q[head] → y ∈ q

theorem Bfs2.start {n : Nat} {g : Nat → List Nat} {c : Nat → Nat} {has rea : Nat → Bool} {q : List Nat} (h : Bfs1 c n has rea q) : Bfs2 n g c 0 0 rea q :=
  ⟨h.mem, h.nodup, h.lt, h.rep, Nat.zero_le _, fun i _ hi => by omega, fun _ y hy => by simp at hy⟩

theorem Bfs2.len {n : Nat} {g : Nat → List Nat} {c : Nat → Nat} {head k : Nat} {rea : Nat → Bool} {q : List Nat} (h : Bfs2 n g c head k rea q) : q.length ≤ n := by
  have := List.Nodup.length_le_of_subset (l₂ := List.range n) h.nodup (fun x hx => by simpa using h.lt x hx)
  simpa using this

section
variable {n : Nat} {g : Nat → List Nat} {c : Nat → Nat} {head k : Nat} {rea : Nat → Bool} {q : List Nat}

/-- The next edge leads out of the class, or to a node that was met. -/
theorem Bfs2.skip (h : Bfs2 n g c head k rea q) (hh : head < q.length) (hk : k < (g q[head]).length) (hs : c (g q[head])[k] = c q[head] → rea (g q[head])[k] = true) : Bfs2 n g c head (k + 1) rea q := by
  refine ⟨h.mem, h.nodup, h.lt, h.rep, h.hd, h.closed, fun hi y hy hc => ?_⟩
  rw [List.take_succ_eq_append_getElem hk] at hy
  rcases List.mem_append.1 hy with hy | hy
  · exact h.part hi y hy hc
  · simp only [List.mem_singleton] at hy
    subst hy
    exact (h.mem _).1 (hs hc)

/-- The next edge leads to a new node of the class. -/
theorem Bfs2.push (h : Bfs2 n g c head k rea q) (hh : head < q.length) (hk : k < (g q[head]).length) (hn : (g q[head])[k] < n) (hr : rea (g q[head])[k] = false) :
    Bfs2 n g c head (k + 1) (upd rea (g q[head])[k] true) (q ++ [(g q[head])[k]]) := by
  obtain ⟨y, hy⟩ : ∃ y, y = (g q[head])[k] := ⟨_, rfl⟩
  rw [← hy] at hn hr ⊢
  have hnq : y ∉ q := fun hh => by rw [(h.mem y).2 hh] at hr; simp at hr
  have hq : ∀ i (hi : i < q.length), (q ++ [y])[i]'(by simp; omega) = q[i] := fun i hi => List.getElem_append_left hi
  refine ⟨fun x => ?_, ?_, fun x hx => ?_, fun u hu => ?_, by have := h.hd; simp; omega, fun i hi hlt z hz hc => ?_, fun hi z hz hc => ?_⟩
  · by_cases e : x = y
    · subst e; rw [upd_same]; simp
    · rw [upd_other _ _ _ _ e, h.mem x]; simp [e]
  · rw [List.nodup_append]
    exact ⟨h.nodup, by simp, fun a ha b hb => by simp at hb; subst hb; exact fun e => hnq (e ▸ ha)⟩
  · rcases List.mem_append.1 hx with hx | hx
    · exact h.lt x hx
    · simp at hx; rw [hx]; exact hn
  · obtain ⟨x, hx, hc⟩ := h.rep u hu
    exact ⟨x, List.mem_append_left _ hx, hc⟩
  · have hi' : i < q.length := by have := h.hd; omega
    rw [hq i hi'] at hz hc
    exact List.mem_append_left _ (h.closed i hi' hlt z hz hc)
  · rw [hq head hh] at hz hc
    rw [List.take_succ_eq_append_getElem hk] at hz
    rcases List.mem_append.1 hz with hz | hz
    · exact List.mem_append_left _ (h.part hh z hz hc)
    · simp only [List.mem_singleton] at hz
      rw [hz, ← hy]; simp

/-- The node's edges are through. -/
theorem Bfs2.next (h : Bfs2 n g c head k rea q) (hh : head < q.length) (hk : k = (g q[head]).length) : Bfs2 n g c (head + 1) 0 rea q := by
  refine ⟨h.mem, h.nodup, h.lt, h.rep, hh, fun i hi hlt y hy hc => ?_, fun _ y hy => by simp at hy⟩
  by_cases e : i = head
  · subst e
    exact h.part hi y (by rw [hk, List.take_length]; exact hy) hc
  · exact h.closed i hi (by omega) y hy hc

/-- AT THE END every node is reached. -/
theorem Bfs2.done (h : Bfs2 n g c head k rea q) (hh : head = q.length) (hl : Linked n g c) : ∀ v, v < n → rea v = true := by
  intro v hv
  obtain ⟨x, hx, hc⟩ := h.rep v hv
  refine (h.mem v).2 (hl x v (h.lt x hx) hv hc (fun z => z ∈ q) hx fun a b _ ha hb hcb => ?_)
  obtain ⟨i, hi, rfl⟩ := List.mem_iff_getElem.1 ha
  exact h.closed i hi (by omega) b hb hcb
end
end Go.Proofs.Qxb6600569a
