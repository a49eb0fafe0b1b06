/-
  THE PLAIN LAWS OVER COMPONENTS: two numberings, of a graph and of its reverse.
-/
import Derived.Test.Qxb6600569aTarjan
namespace Go.Proofs.Qxb6600569a
open Tj (upd upd_same upd_other Reach)

/-- 'Tj.Good' with numbers that are naturals. -/
structure GoodN (n : Nat) (g : Nat → List Nat) (c : Nat → Nat) (k : Nat) : Prop where
  le : k ≤ n
  lt : ∀ x, x < n → c x < k
  dense : ∀ j, j < k → ∃ x, x < n ∧ c x = j
  edge : ∀ x, x < n → ∀ y ∈ g x, c y ≤ c x
  reach : ∀ x y, x < n → y < n → c x = c y → Reach g x y

theorem GoodN.of {n : Nat} {g : Nat → List Nat} {comp : Nat → Int} {k : Nat} (h : Tj.Good n g comp k) (hin : ∀ u, u < n → ∀ v ∈ g u, v < n) : GoodN n g (fun x => (comp x).toNat) k := by
  refine ⟨h.le, fun x hx => by have := h.range x hx; show (comp x).toNat < k; omega, fun j hj => ?_, fun x hx y hy => ?_, fun x y hx hy he => ?_⟩
  · obtain ⟨x, hx, e⟩ := h.dense j hj
    exact ⟨x, hx, by show (comp x).toNat = j; omega⟩
  · have := h.edge x hx y hy
    have := (h.range x hx).1
    have := (h.range y (hin x hx y hy)).1
    show (comp y).toNat ≤ (comp x).toNat
    omega
  · have he' : (comp x).toNat = (comp y).toNat := he
    have := (h.range x hx).1
    have := (h.range y hy).1
    exact h.reach x y hx hy (by omega)

/-- Along a way the numbers do not rise, and the way stays inside. -/
theorem GoodN.down {n : Nat} {g : Nat → List Nat} {c : Nat → Nat} {k : Nat} (h : GoodN n g c k) (hin : ∀ u, u < n → ∀ v ∈ g u, v < n) {u v : Nat} (hu : u < n) (r : Reach g u v) : v < n ∧ c v ≤ c u := by
  refine r (fun x => x < n ∧ c x ≤ c u) ⟨hu, Nat.le_refl _⟩ fun x y hx hy => ⟨hin x hx.1 y hy, Nat.le_trans (h.edge x hx.1 y hy) hx.2⟩

theorem GoodN.same_iff {n : Nat} {g : Nat → List Nat} {c : Nat → Nat} {k : Nat} (h : GoodN n g c k) (hin : ∀ u, u < n → ∀ v ∈ g u, v < n) {u v : Nat} (hu : u < n) (hv : v < n) : c u = c v ↔ Reach g u v ∧ Reach g v u := by
  constructor
  · intro e; exact ⟨h.reach u v hu hv e, h.reach v u hv hu e.symm⟩
  · rintro ⟨a, b⟩
    exact Nat.le_antisymm (h.down hin hv b).2 (h.down hin hu a).2

/-- The reverse of a graph of n nodes. -/
def IsRev (n : Nat) (g r : Nat → List Nat) : Prop := ∀ x v, x ∈ r v ↔ x < n ∧ v ∈ g x

/-- Inside the nodes a way turned round is a way of the reverse. -/
theorem reach_rev {n : Nat} {g r : Nat → List Nat} (hr : IsRev n g r) (hin : ∀ u, u < n → ∀ v ∈ g u, v < n) {u v : Nat} (hu : u < n) (h : Reach g u v) : Reach r v u :=
  (h (fun x => x < n ∧ Reach r x u) ⟨hu, Reach.refl _ _⟩ fun x y hx hy => ⟨hin x hx.1 y hy, fun P hy' hs => hx.2 P (hs y x hy' ((hr x y).2 ⟨hx.1, hy⟩)) hs⟩).2

theorem rev_in {n : Nat} {g r : Nat → List Nat} (hr : IsRev n g r) : ∀ u, u < n → ∀ v ∈ r u, v < n := fun u _ v hv => ((hr v u).1 hv).1

/-- .. and back. -/
theorem reach_back {n : Nat} {g r : Nat → List Nat} (hr : IsRev n g r) {u v : Nat} (h : Reach r u v) : Reach g v u :=
  h (fun x => Reach g x u) (Reach.refl _ _) fun x y hx hy => fun P hy' hs => hx P (hs y x hy' ((hr y x).1 hy).2) hs

section
variable {n : Nat} {g r : Nat → List Nat} {c1 c2 : Nat → Nat} {k1 k2 : Nat}

/-- THE SAME CLASSES. -/
theorem classes_agree (h1 : GoodN n g c1 k1) (h2 : GoodN n r c2 k2) (hr : IsRev n g r) (hin : ∀ u, u < n → ∀ v ∈ g u, v < n) {u v : Nat} (hu : u < n) (hv : v < n) : c1 u = c1 v ↔ c2 u = c2 v := by
  rw [h1.same_iff hin hu hv, h2.same_iff (rev_in hr) hu hv]
  exact ⟨fun h => ⟨reach_rev hr hin hv h.2, reach_rev hr hin hu h.1⟩, fun h => ⟨reach_back hr h.2, reach_back hr h.1⟩⟩

/-- An edge between two classes goes down in the one numbering, up in the other. -/
theorem edge_agree (h1 : GoodN n g c1 k1) (h2 : GoodN n r c2 k2) (hr : IsRev n g r) (hin : ∀ u, u < n → ∀ v ∈ g u, v < n) {u v : Nat} (hu : u < n) (hv : v ∈ g u) (hne : c1 u ≠ c1 v) : c1 v < c1 u ∧ c2 u < c2 v := by
  have hvn := hin u hu v hv
  have e1 := h1.edge u hu v hv
  have e2 := h2.edge v hvn u ((hr u v).2 ⟨hu, hv⟩)
  have ne2 : c2 u ≠ c2 v := fun e => hne ((classes_agree h1 h2 hr hin hu hvn).2 e)
  omega

/-- WHAT HOLDS OF THE TWO TABLES when v nodes have been met. -/
structure Tables (n : Nat) (c1 c2 : Nat → Nat) (v : Nat) (m1 m2 : Nat → Int) : Prop where
  met : ∀ u, u < v → m1 (c1 u) = c2 u ∧ m2 (c2 u) = c1 u
  free1 : ∀ a, (∀ u, u < v → c1 u ≠ a) → m1 a = -1
  free2 : ∀ b, (∀ u, u < v → c2 u ≠ b) → m2 b = -1

theorem Tables.start (n : Nat) (c1 c2 : Nat → Nat) : Tables n c1 c2 0 (fun _ => -1) (fun _ => -1) := ⟨fun _ h => by omega, fun _ _ => rfl, fun _ _ => rfl⟩

/-- A node of a class that was met. -/
theorem Tables.old {v : Nat} {m1 m2 : Nat → Int} (t : Tables n c1 c2 v m1 m2) (agree : ∀ u, u < n → (c1 u = c1 v ↔ c2 u = c2 v)) (hv : v < n) {u : Nat} (hu : u < v) (e : c1 u = c1 v) :
    m1 (c1 v) = c2 v ∧ m2 (c2 v) = c1 v ∧ Tables n c1 c2 (v + 1) m1 m2 := by
  have e2 := (agree u (by omega)).1 e
  have hm := t.met u hu
  rw [e, e2] at hm
  refine ⟨hm.1, hm.2, ⟨fun x hx => ?_, fun a ha => t.free1 a fun x hx => ha x (by omega), fun b hb => t.free2 b fun x hx => hb x (by omega)⟩⟩
  by_cases ex : x = v
  · subst ex; exact hm
  · exact t.met x (by omega)

/-- A node of a new class. -/
theorem Tables.new {v : Nat} {m1 m2 : Nat → Int} (t : Tables n c1 c2 v m1 m2) (agree : ∀ u, u < n → (c1 u = c1 v ↔ c2 u = c2 v)) (hv : v < n) (hno : ∀ u, u < v → c1 u ≠ c1 v) :
    m1 (c1 v) = -1 ∧ m2 (c2 v) = -1 ∧ Tables n c1 c2 (v + 1) (upd m1 (c1 v) (c2 v)) (upd m2 (c2 v) (c1 v)) := by
  have hno2 : ∀ u, u < v → c2 u ≠ c2 v := fun u hu e => hno u hu ((agree u (by omega)).2 e)
  refine ⟨t.free1 _ hno, t.free2 _ hno2, ⟨fun x hx => ?_, fun a ha => ?_, fun b hb => ?_⟩⟩
  · by_cases ex : x = v
    · subst ex; rw [upd_same, upd_same]; exact ⟨rfl, rfl⟩
    · rw [upd_other _ _ _ _ (hno x (by omega)), upd_other _ _ _ _ (hno2 x (by omega))]; exact t.met x (by omega)
  · rw [upd_other _ _ _ _ (fun e => ha v (by omega) e.symm)]; exact t.free1 a fun x hx => ha x (by omega)
  · rw [upd_other _ _ _ _ (fun e => hb v (by omega) e.symm)]; exact t.free2 b fun x hx => hb x (by omega)
end
end Go.Proofs.Qxb6600569a
