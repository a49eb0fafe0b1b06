/-
  AN EDGE IS APPENDED TO A ROW: the rows and the times behind it.
-/
import Derived.Test.Qxb6600569aRtMoved
import Derived.Test.Qxb6600569aRtMem
namespace Go.Proofs.Qxb6600569a
open Go.RowKit
open Tj (upd upd_same upd_other)
set_option linter.unusedVariables false

/-- The rows E in memory, apart from the slice v2. -/
structure RowsAt (wx : World) (base b' M : Nat) (E : Nat → List (Nat × Int)) (v2 : Value) (R : Nat → Value) : Prop where
  fam : Fam wx base b' 60 63 3 M R (fun u => (E u).length) (fun u => (E u).flatMap edgeCells)
  sep : ∀ g, v2.ownBlock = some g → g < wx.heap.size ∧ g ≠ b' ∧ ∀ u, u < M → (R u).ownBlock ≠ some g

structure Pushed (wr w1 : World) (base b' M u : Nat) (E : Nat → List (Nat × Int)) (e : Nat × Int) (v2 : Value) (L : List Int) (R : Nat → Value) (h : Value) (W : World) : Prop where
  cell : w1.cell? ⟨b', u, none⟩ = some (R u)
  frozen : w1.frozen? ⟨b', u, none⟩ = false
  rows : RowsAt (w1.setCell ⟨b', u, none⟩ h) base b' M (upd E u (E u ++ [e])) v2 (upd R u h)
  times : TimesIs wr v2 L → TimesIs (w1.setCell ⟨b', u, none⟩ h) v2 L
  below : ∀ B, B ≤ base → ∀ w0, Below B w0 W → Below B w0 (w1.setCell ⟨b', u, none⟩ h)
  size : W.heap.size ≤ (w1.setCell ⟨b', u, none⟩ h).heap.size
  fresh : ∀ k, wr.heap.size ≤ k → k < W.heap.size → (w1.setCell ⟨b', u, none⟩ h).heap[k]? = W.heap[k]?

theorem RowsAt.push {wr W w1 : World} {base b' M u g cap : Nat} {E : Nat → List (Nat × Int)} {v2 : Value} {R : Nat → Value} {L : List Int} (e : Nat × Int) (h : RowsAt wr base b' M E v2 R) (hu : u < M) (hW : ∀ k, k < wr.heap.size → W.heap[k]? = wr.heap[k]?) (hWs : wr.heap.size ≤ W.heap.size)
    (hown : w1.ownsRow base 63 3 (.slice (some ⟨g, 0, none⟩) ((E u).length + 1) cap) ((E u).length + 1) ((E u).flatMap edgeCells ++ edgeCells e)) (hgrow : W.grownBy w1 (R u).ownBlock) (hat : (R u).ownBlock = some g ∨ g = W.heap.size) :
    Pushed wr w1 base b' M u E e v2 L R (.slice (some ⟨g, 0, none⟩) ((E u).length + 1) cap) W := by
  obtain ⟨q3, q4, HF, HB⟩ := h.fam.grown hu hW hown hgrow hat
  have hbg : ∀ j, v2.ownBlock = some j → j ≠ g := by
    intro j hj
    obtain ⟨h1, h2, h3⟩ := h.sep j hj
    rcases hat with e | e
    · intro e'; subst e'; exact h3 u hu e
    · omega
  have hsz : W.heap.size ≤ w1.heap.size := hgrow.size
  refine ⟨q3, q4, ⟨HF.congr (fun _ _ => rfl) (fun i _ => ?_) (fun i _ => ?_), fun j hj => ?_⟩, fun ht => ?_, fun B hB w0 hb => (HB B hB w0 hb).setCell (Nat.le_trans hB h.fam.low) _, by simpa using hsz, fun k hk1 hk2 => ?_⟩
  · by_cases e : i = u
    · subst e; simp [upd_same]
    · simp [upd_other _ _ _ _ e]
  · by_cases e : i = u
    · subst e; simp [upd_same]
    · simp [upd_other _ _ _ _ e]
  · obtain ⟨h1, h2, h3⟩ := h.sep j hj
    refine ⟨by simp; omega, h2, fun i hi => ?_⟩
    by_cases e : i = u
    · subst e
      rw [upd_same]
      intro e'
      have : g = j := Option.some.inj e'
      exact hbg j hj this.symm
    · rw [upd_other _ _ _ _ e]; exact h3 i hi
  · obtain ⟨a, cp, ev, hc⟩ := ht.out
    refine ⟨a, cp, ev, fun j hj => ?_⟩
    obtain ⟨gg, ea, hcell⟩ := hc j hj
    refine ⟨gg, ea, ?_⟩
    have hob : v2.ownBlock = some gg := by rw [ev, ea]; rfl
    obtain ⟨h1, h2, h3⟩ := h.sep gg hob
    rw [World.cell?_of_block (w := wr) ?_]
    · exact hcell
    · show (w1.setCell ⟨b', u, none⟩ _).heap[gg]? = wr.heap[gg]?
      rw [Below.heap_setCell _ _ _ _ (by simpa using h2), hgrow.block gg (by omega) (fun e => h3 u hu e.symm), hW gg h1]
  · have h1 := h.fam.row.lt
    have h2 : (R u).ownBlock ≠ some k := fun e => by
      have := ((h.fam.own u hu).lt k e).2
      omega
    rw [Below.heap_setCell _ _ _ _ (show k ≠ b' by omega), hgrow.block k hk2 (fun e => h2 e.symm)]

theorem Rt.cell_new (w : World) (o : Array Value) (t : TypeId) (j : Nat) : (w.alloc (.cells o t)).cell? ⟨w.heap.size, j, none⟩ = o[j]? := by
  have := heap_alloc_new w (.cells o t)
  simp only [World.cell?, this, Option.isSome_none, Bool.false_eq_true, if_false]

theorem Rt.below_drewN {B : Nat} {w wr : World} (h : Below B w wr) (k : Nat) : Below B w (wr.drewN k) := ⟨h.os, h.tape, h.output, h.size, h.block⟩

/-- The old blocks are as they were: the rows lie as they lay. -/
theorem RowsAt.keep {w wx : World} {base b' M : Nat} {E : Nat → List (Nat × Int)} {v2 : Value} {R : Nat → Value} (h : RowsAt w base b' M E v2 R) (hb : ∀ k, k < w.heap.size → wx.heap[k]? = w.heap[k]?) (hs : w.heap.size ≤ wx.heap.size) : RowsAt wx base b' M E v2 R :=
  ⟨h.fam.of_blocks fun g _ hg => hb g hg, fun g hg => ⟨Nat.lt_of_lt_of_le (h.sep g hg).1 hs, (h.sep g hg).2⟩⟩

theorem TimesIs.block {w wx : World} {v : Value} {L : List Int} (h : TimesIs w v L) (hb : ∀ k, k < w.heap.size → wx.heap[k]? = w.heap[k]?) : TimesIs wx v L := by
  obtain ⟨a, cap, e, hc⟩ := h.out
  refine ⟨a, cap, e, fun j hj => ?_⟩
  obtain ⟨g, e', hg⟩ := hc j hj
  refine ⟨g, e', ?_⟩
  rw [World.cell?_of_block (w := w) (hb g (World.block_lt_of_cell? w _ hg))]
  exact hg

end Go.Proofs.Qxb6600569a
