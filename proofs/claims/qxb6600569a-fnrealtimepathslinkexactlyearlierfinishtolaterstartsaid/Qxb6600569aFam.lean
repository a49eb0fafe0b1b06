/-
  A SLICE OF SLICES THAT THE CALL ITSELF MAKES: one block of row headers, each row grown by append. Memory alone: no program.
-/
import Derived.WalkKit
import Derived.Deep.OwnRows
import Derived.Deep.AppendLies
import Derived.Test.Qxb6600569aTarjan
namespace Go.Proofs.Qxb6600569a
open Go.RowKit
open Tj (upd upd_same upd_other)

theorem heap_alloc_keep (w : World) (o : Obj) (k : Nat) (h : k < w.heap.size) : (w.alloc o).heap[k]? = w.heap[k]? := Below.heap_alloc w o k h

/-- ownsRow hangs on its one block alone. -/
theorem ownsRow_of_block {w w' : World} {base e size n : Nat} {v : Value} {xs : List Value} (h : w.ownsRow base e size v n xs) (hb : ∀ g, v.ownBlock = some g → w'.heap[g]? = w.heap[g]?) : w'.ownsRow base e size v n xs := by
  refine ⟨h.1, ?_⟩
  rcases h.2 with hn | ⟨g, cap, cur, rfl, hbg, hgg, r⟩
  · exact .inl hn
  · exact .inr ⟨g, cap, cur, rfl, hbg, by rw [hb g rfl]; exact hgg, r⟩

theorem ownsRow_setCell {w : World} {base e size n : Nat} {v : Value} {xs : List Value} (h : w.ownsRow base e size v n xs) {a : Addr} (u : Value) (ha : v.ownBlock ≠ some a.block) : (w.setCell a u).ownsRow base e size v n xs :=
  ownsRow_of_block h fun g hg => Below.heap_setCell w a u g (fun e => ha (by rw [hg, e]))

theorem ownsRow_lower {w : World} {base base' e size n : Nat} {v : Value} {xs : List Value} (h : w.ownsRow base e size v n xs) (hb : base' ≤ base) : w.ownsRow base' e size v n xs := by
  refine ⟨h.1, ?_⟩
  rcases h.2 with hn | ⟨g, cap, cur, rfl, hbg, r⟩
  · exact .inl hn
  · exact .inr ⟨g, cap, cur, rfl, Nat.le_trans hb hbg, r⟩

/-- BLOCK b HOLDS n ROW HEADERS (type T); ROW u IS THE VALUE 'R u', OF 'N u' ELEMENTS (type E, 'size' cells each), OWNING THE CELLS 'C u'; no two rows share a block, none lies in b. -/
structure Fam (w : World) (base b T E size n : Nat) (R : Nat → Value) (N : Nat → Nat) (C : Nat → List Value) : Prop where
  row : w.rowIs b T n R
  low : base ≤ b
  own : ∀ u, u < n → w.ownsRow base E size (R u) (N u) (C u)
  apart : ∀ u u' g, u < n → u' < n → (R u).ownBlock = some g → (R u').ownBlock = some g → u = u'
  off : ∀ u, u < n → (R u).ownBlock ≠ some b

section
variable {w w' : World} {base b T E size n : Nat} {R : Nat → Value} {N : Nat → Nat} {C : Nat → List Value}

/-- All that a family hangs on: its blocks lie from base on. -/
theorem Fam.of_blocks (h : Fam w base b T E size n R N C) (hb : ∀ g, base ≤ g → g < w.heap.size → w'.heap[g]? = w.heap[g]?) : Fam w' base b T E size n R N C :=
  ⟨h.row.of_block (hb b h.low h.row.lt), h.low, fun u hu => ownsRow_of_block (h.own u hu) fun g hg => hb g ((h.own u hu).lt g hg).1 ((h.own u hu).lt g hg).2, h.apart, h.off⟩

theorem Fam.alloc (h : Fam w base b T E size n R N C) (o : Obj) : Fam (w.alloc o) base b T E size n R N C :=
  h.of_blocks fun g _ hg => heap_alloc_keep w o g hg

theorem Fam.drew (h : Fam w base b T E size n R N C) : Fam w.drew base b T E size n R N C := h.of_blocks fun _ _ _ => rfl

/-- In a world that is as it was below B, all the family's blocks lying below B. -/
theorem Fam.below (h : Fam w base b T E size n R N C) {B : Nat} (hB : w.heap.size ≤ B) (hbel : Below B w w') : Fam w' base b T E size n R N C :=
  h.of_blocks fun g _ hg => hbel.block g (Nat.lt_of_lt_of_le hg hB)

/-- A store into a block that is none of the family's. -/
theorem Fam.setOther (h : Fam w base b T E size n R N C) {a : Addr} (u : Value) (hb : b ≠ a.block) (ho : ∀ i, i < n → (R i).ownBlock ≠ some a.block) : Fam (w.setCell a u) base b T E size n R N C :=
  ⟨h.row.setOther hb u, h.low, fun i hi => ownsRow_setCell (h.own i hi) u (ho i hi), h.apart, h.off⟩

theorem Fam.setLow (h : Fam w base b T E size n R N C) {a : Addr} (u : Value) (ha : a.block < base) : Fam (w.setCell a u) base b T E size n R N C :=
  h.setOther u (by have := h.low; omega) (fun i hi e => by have := ((h.own i hi).lt _ e).1; omega)

theorem Fam.congr (h : Fam w base b T E size n R N C) {R' : Nat → Value} {N' : Nat → Nat} {C' : Nat → List Value} (hR : ∀ u, u < n → R u = R' u) (hN : ∀ u, u < n → N u = N' u) (hC : ∀ u, u < n → C u = C' u) : Fam w base b T E size n R' N' C' :=
  ⟨h.row.congr hR, h.low, fun u hu => by rw [← hR u hu, ← hN u hu, ← hC u hu]; exact h.own u hu,
    fun u u' g hu hu' h1 h2 => h.apart u u' g hu hu' (by rw [hR u hu]; exact h1) (by rw [hR u' hu']; exact h2), fun u hu => by rw [← hR u hu]; exact h.off u hu⟩

/-- The rows as 'make' lays them: all nil. -/
theorem Fam.made (w : World) (base T E size n : Nat) (hb : base ≤ w.heap.size) : Fam (w.alloc (.cells (madeCells #[.slice none 0 0] n) T)) base w.heap.size T E size n (fun _ => .slice none 0 0) (fun _ => 0) (fun _ => []) :=
  ⟨World.rowIs_made w _ n T, hb, fun _ _ => World.ownsRow_nil _ _ _ _, fun _ _ _ _ _ h _ => by simp [Value.ownBlock] at h, fun _ _ h => by simp [Value.ownBlock] at h⟩

/-- 'rows[u] = append(rows[u], ..)': behind the append, and the store of the header. -/
theorem Fam.appended (h : Fam w base b T E size n R N C) {u g m cap : Nat} {news : List Value} (hu : u < n) {w1 : World}
    (hown : w1.ownsRow base E size (.slice (some ⟨g, 0, none⟩) (N u + m) cap) (N u + m) (C u ++ news)) (hgrow : w.grownBy w1 (R u).ownBlock) (hat : (R u).ownBlock = some g ∨ g = w.heap.size) :
    Fam (w1.setCell ⟨b, u, none⟩ (.slice (some ⟨g, 0, none⟩) (N u + m) cap)) base b T E size n (upd R u (.slice (some ⟨g, 0, none⟩) (N u + m) cap)) (upd N u (N u + m)) (upd C u (C u ++ news)) := by
  have hbg : b ≠ g := by
    rcases hat with e | e
    · intro e'; subst e'; exact h.off u hu e
    · have := h.row.lt; omega
  have hb1 : w1.heap[b]? = w.heap[b]? := hgrow.block b h.row.lt (fun e => h.off u hu e.symm)
  have hown1 : (Value.slice (some ⟨g, 0, none⟩) (N u + m) cap).ownBlock = some g := rfl
  have other : ∀ i, i < n → i ≠ u → (R i).ownBlock ≠ some g := by
    intro i hi hne e
    rcases hat with e' | e'
    · exact hne (h.apart i u g hi hu e e')
    · have := ((h.own i hi).lt _ e).2; omega
  refine ⟨?_, h.low, ?_, ?_, ?_⟩
  · exact ((h.row.of_block hb1).set u _)
  · intro i hi
    by_cases e : i = u
    · subst e
      rw [upd_same, upd_same, upd_same]
      exact ownsRow_setCell hown _ (by rw [hown1]; exact fun e => hbg (Option.some.inj e).symm)
    · rw [upd_other _ _ _ _ e, upd_other _ _ _ _ e, upd_other _ _ _ _ e]
      refine ownsRow_setCell (ownsRow_of_block (h.own i hi) fun g' hg' => hgrow.block g' ((h.own i hi).lt g' hg').2 ?_) _ (h.off i hi)
      intro e'
      exact e (h.apart i u g' hi hu hg' e'.symm)
  · intro i i' g' hi hi' h1 h2
    by_cases e : i = u
    · by_cases e' : i' = u
      · rw [e, e']
      · subst e
        rw [upd_same, hown1] at h1
        rw [upd_other _ _ _ _ e'] at h2
        exact absurd (h2.trans h1.symm) (other i' hi' e')
    · by_cases e' : i' = u
      · subst e'
        rw [upd_same, hown1] at h2
        rw [upd_other _ _ _ _ e] at h1
        exact absurd (h1.trans h2.symm) (other i hi e)
      · rw [upd_other _ _ _ _ e] at h1
        rw [upd_other _ _ _ _ e'] at h2
        exact h.apart i i' g' hi hi' h1 h2
  · intro i hi
    by_cases e : i = u
    · subst e; rw [upd_same, hown1]; exact fun e => hbg (Option.some.inj e).symm
    · rw [upd_other _ _ _ _ e]; exact h.off i hi

/-- What an append to row u leaves, in a world W that is as w but for new blocks: the header's cell as it was; and the family behind the store of the new header. -/
theorem Fam.grown (h : Fam w base b T E size n R N C) {u g m cap : Nat} {news : List Value} (hu : u < n) {W w1 : World} (hW : ∀ k, k < w.heap.size → W.heap[k]? = w.heap[k]?)
    (hown : w1.ownsRow base E size (.slice (some ⟨g, 0, none⟩) (N u + m) cap) (N u + m) (C u ++ news)) (hgrow : W.grownBy w1 (R u).ownBlock) (hat : (R u).ownBlock = some g ∨ g = W.heap.size) :
    w1.cell? ⟨b, u, none⟩ = some (R u) ∧ w1.frozen? ⟨b, u, none⟩ = false ∧
    Fam (w1.setCell ⟨b, u, none⟩ (.slice (some ⟨g, 0, none⟩) (N u + m) cap)) base b T E size n (upd R u (.slice (some ⟨g, 0, none⟩) (N u + m) cap)) (upd N u (N u + m)) (upd C u (C u ++ news)) ∧
    ∀ B, B ≤ base → ∀ w0, Below B w0 W → Below B w0 w1 := by
  have hf : Fam W base b T E size n R N C := h.of_blocks fun k _ hk => hW k hk
  have hr := hf.row.of_block (hgrow.block b hf.row.lt (fun e => hf.off u hu e.symm))
  have hlow := h.low
  have hlt := hf.row.lt
  exact ⟨hr.cell hu, hr.frozen u, hf.appended hu hown hgrow hat, fun B hB w0 hb => hb.grown hgrow (by omega) (fun j hj => Nat.le_trans hB ((hf.own u hu).lt j hj).1)⟩

/-- A row's header, whatever it is, is a slice of its length. -/
theorem Fam.header (h : Fam w base b T E size n R N C) {u : Nat} (hu : u < n) : ∃ a cap, R u = .slice a (N u) cap := by
  rcases (h.own u hu).2 with ⟨e, e'⟩ | ⟨g, cap, cur, e, _⟩
  · exact ⟨none, 0, by rw [e, e']⟩
  · exact ⟨some ⟨g, 0, none⟩, cap, e⟩

/-- A row that holds something leads to its cells. -/
theorem Fam.cells (h : Fam w base b T E size n R N C) {u : Nat} (hu : u < n) (hn : 0 < N u) : ∃ g cap, R u = .slice (some ⟨g, 0, none⟩) (N u) cap ∧ base ≤ g ∧ ∀ j, j < N u * size → w.cell? ⟨g, j, none⟩ = (C u)[j]? := by
  have ho := h.own u hu
  rcases ho.2 with ⟨_, e'⟩ | ⟨g, cap, cur, e, hb, _⟩
  · omega
  · refine ⟨g, cap, e, hb, fun j hj => ?_⟩
    rw [e] at ho
    exact ho.cellAt j hj
end

end Go.Proofs.Qxb6600569a
