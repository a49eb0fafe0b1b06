/-
  Reading a graph's edges; the memory of the search along the time nodes.
-/
import Derived.Test.Qxb6600569aEdges
import Derived.Test.Qxb6600569aCopies
namespace Go.Proofs.Qxb6600569a
open Go.RowKit
set_option linter.unusedVariables false

structure TrueR (w : World) (e : Ending) (w' : World) : Prop where
  ret : e = .returned (.bool true)
  below : Below w.heap.size w w'

theorem Rt.edge_cells (L : List (Nat × Int)) : ∀ k j, k < L.length → j < 3 → (L.flatMap edgeCells)[k * 3 + j]? = (edgeCells (L.getD k (0, 0)))[j]? := by
  induction L with
  | nil => intro k j h; simp at h
  | cons e L ih =>
    intro k j hk hj
    cases k with
    | zero =>
      rw [List.flatMap_cons, List.getElem?_append_left (by simp [edgeCells]; omega)]
      simp
    | succ k =>
      rw [List.flatMap_cons, List.getElem?_append_right (by simp [edgeCells]; omega), show (k + 1) * 3 + j - (edgeCells e).length = k * 3 + j by simp [edgeCells]; omega, ih k j (by simpa using hk) hj]
      simp

/-- The three cells of an edge of a graph in memory. -/
theorem fam_edge {w : World} {base b M : Nat} {R : Nat → Value} {E : Nat → List (Nat × Int)} (h : Fam w base b 60 63 3 M R (fun u => (E u).length) (fun u => (E u).flatMap edgeCells)) {u : Nat} (hu : u < M) (hl : 0 < (E u).length) :
    ∃ g cap, R u = .slice (some ⟨g, 0, none⟩) (E u).length cap ∧ ∀ k, k < (E u).length → w.cell? ⟨g, k * 3, none⟩ = some (.int .i64 ((E u).getD k (0, 0)).1) ∧ w.cell? ⟨g, k * 3 + 1, none⟩ = some (.int .i8 ((E u).getD k (0, 0)).2) ∧ w.cell? ⟨g, k * 3 + 2, none⟩ = some (.string ⟨#[]⟩) := by
  obtain ⟨g, cap, e, _, hc⟩ := h.cells hu hl
  refine ⟨g, cap, e, fun k hk => ?_⟩
  have := Rt.edge_cells (E u) k
  refine ⟨?_, ?_, ?_⟩
  · rw [hc (k * 3) (by omega)]; exact this 0 hk (by omega)
  · rw [hc (k * 3 + 1) (by omega)]; exact this 1 hk (by omega)
  · rw [hc (k * 3 + 2) (by omega)]; exact this 2 hk (by omega)

/-- The memory of the search. -/
structure AtP (W : World) (H n D : Nat) (rea sn : Nat → Bool) (qv : Value) (q : List Nat) (wr : World) : Prop where
  rear : wr.rowIs H 4 n (fun b => .bool (rea b))
  seen : wr.rowIs (H + 1) 4 D (fun j => .bool (sn j))
  own : wr.ownsRow (H + 2) 3 1 qv q.length (q.map I)
  below : Below H W wr

section
variable {W wr : World} {H n D : Nat} {rea sn : Nat → Bool} {qv : Value} {q : List Nat}

theorem AtP.low (h : AtP W H n D rea sn qv q wr) {b : Nat} (hb : b < H + 2) : qv.ownBlock ≠ some b := fun e => by have := (h.own.lt b e).1; omega
theorem AtP.big (h : AtP W H n D rea sn qv q wr) : H + 2 ≤ wr.heap.size := h.seen.lt
theorem AtP.alloc (h : AtP W H n D rea sn qv q wr) (o : Obj) : AtP W H n D rea sn qv q (wr.alloc o) := ⟨h.rear.alloc o, h.seen.alloc o, h.own.alloc o, h.below.alloc (by have := h.big; omega) o⟩
theorem AtP.drewN (h : AtP W H n D rea sn qv q wr) (k : Nat) : AtP W H n D rea sn qv q (wr.drewN k) := ⟨h.rear, h.seen, h.own, ⟨h.below.os, h.below.tape, h.below.output, h.below.size, h.below.block⟩⟩
theorem AtP.setRea (h : AtP W H n D rea sn qv q wr) (b : Nat) (x : Bool) : AtP W H n D (fun i => if i = b then x else rea i) sn qv q (wr.setCell ⟨H, b, none⟩ (.bool x)) :=
  ⟨(h.rear.set b _).congr fun i _ => by split <;> rfl, h.seen.setOther (by simp) _, ownsRow_setCell h.own _ (h.low (by simp)), h.below.setCell (Nat.le_refl _) _⟩
theorem AtP.setSeen (h : AtP W H n D rea sn qv q wr) (j : Nat) (x : Bool) : AtP W H n D rea (fun i => if i = j then x else sn i) qv q (wr.setCell ⟨H + 1, j, none⟩ (.bool x)) :=
  ⟨h.rear.setOther (by simp) _, (h.seen.set j _).congr fun i _ => by split <;> rfl, ownsRow_setCell h.own _ (h.low (by simp)), h.below.setCell (by simp) _⟩
theorem AtP.congr (h : AtP W H n D rea sn qv q wr) {rea' sn' : Nat → Bool} (e1 : ∀ i, i < n → rea i = rea' i) (e2 : ∀ a, a < D → sn a = sn' a) : AtP W H n D rea' sn' qv q wr :=
  ⟨h.rear.congr fun i hi => by rw [e1 i hi], h.seen.congr fun i hi => by rw [e2 i hi], h.own, h.below⟩

theorem AtP.push (h : AtP W H n D rea sn qv q wr) {w1 : World} {x g cap : Nat} {o : Obj} (hown : w1.ownsRow (H + 2) 3 1 (.slice (some ⟨g, 0, none⟩) (q.length + 1) cap) (q.length + 1) (q.map I ++ [.int .i64 x])) (hgrow : (wr.alloc o).grownBy w1 qv.ownBlock) :
    AtP W H n D rea sn (.slice (some ⟨g, 0, none⟩) (q.length + 1) cap) (q ++ [x]) w1 := by
  have hb := h.big
  have kb : ∀ b, b < H + 2 → w1.heap[b]? = wr.heap[b]? := fun b hlt => (hgrow.block b (by simp; omega) (fun e => h.low hlt e.symm)).trans (Below.heap_alloc wr o b (by omega))
  refine ⟨h.rear.of_block (kb _ (by omega)), h.seen.of_block (kb _ (by omega)), ?_, (h.below.alloc (by omega) o).grown hgrow (by simp; omega) (fun j hj => by have := (h.own.lt j hj).1; omega)⟩
  have e1 : (q ++ [x]).length = q.length + 1 := by simp
  have e2 : (q ++ [x]).map I = q.map I ++ [.int .i64 x] := by simp [I]
  rw [e1, e2]
  exact hown

theorem AtP.shape (h : AtP W H n D rea sn qv q wr) : ∃ a cap, qv = .slice a q.length cap := by
  rcases h.own.2 with ⟨e, e'⟩ | ⟨g, cap, cur, e, _⟩
  · exact ⟨none, 0, by rw [e, e']⟩
  · exact ⟨_, cap, e⟩

theorem AtP.at (h : AtP W H n D rea sn qv q wr) {i : Nat} (hi : i < q.length) : ∃ g cap, qv = .slice (some ⟨g, 0, none⟩) q.length cap ∧ wr.cell? ⟨g, i, none⟩ = some (I q[i]) := by
  have ho := h.own
  rcases ho.2 with ⟨_, e'⟩ | ⟨g, cap, cur, e, _⟩
  · omega
  · refine ⟨g, cap, e, ?_⟩
    rw [e] at ho
    rw [ho.cellAt i (by omega)]
    simp [hi]

/-- 'queue[:0]'. -/
theorem AtP.reset {a : Option Addr} {m cap : Nat} (h : AtP W H n D rea sn (.slice a m cap) q wr) : AtP W H n D rea sn (.slice a 0 cap) [] wr := by
  refine ⟨h.rear, h.seen, ⟨rfl, ?_⟩, h.below⟩
  rcases h.own.2 with ⟨e, _⟩ | ⟨g, cap', cur, e, h1, h2, h3, h4, h5, h6⟩
  · cases e; exact .inl ⟨rfl, rfl⟩
  · cases e
    exact .inr ⟨g, cap, cur, rfl, h1, h2, Nat.zero_le _, h4, h5, rfl⟩
end

theorem Try.info4' : (Try.prog.info? 4).map (fun i => (i.zero, i.size, i.bytes)) = some (some (.bool false), 1, 1) := by kernel_rfl

theorem run_make_queue (n : Nat) (hn : n ≤ 65536) (w : World) : (Instr.makeSlice 59 (.int .i64 0) (.int .i64 (n : Int))).run Try.prog w = .ok (.slice (some ⟨w.heap.size, 0, none⟩) 0 n) (w.alloc (.cells (madeCells #[.int .i64 0] n) 3)) := by
  obtain ⟨i, hi, hz, hs, hb⟩ := info_parts Try.info3
  have hr := run_make (P := Try.prog) w 59 3 i _ Try.underlying59 hi hz .i64 .i64 0 n (by omega) (by omega) (by rw [hb]; omega) (by omega)
  simp only [Int.toNat_natCast, Int.toNat_zero, hs, Nat.mul_one] at hr
  exact hr

/-- The search's memory as it is made. -/
theorem AtP.start (W : World) (n D : Nat) (hD : D ≤ 65536) : AtP W W.heap.size n D (fun _ => false) (fun _ => false) (.slice (some ⟨W.heap.size + 2, 0, none⟩) 0 D) [] (((W.alloc (.cells (madeCells #[.bool false] n) 4)).alloc (.cells (madeCells #[.bool false] D) 4)).alloc (.cells (madeCells #[.int .i64 0] D) 3)) := by
  have e2 := World.rowIs_made (W.alloc (.cells (madeCells #[.bool false] n) 4)) (.bool false) D 4
  rw [World.size_alloc] at e2
  refine ⟨((World.rowIs_made W (.bool false) n 4).alloc _).alloc _, e2.alloc _, ?_, (((Below.refl _ _).alloc (Nat.le_refl _) _).alloc (by simp) _).alloc (by simp; omega) _⟩
  have := World.ownsRow_made (base := W.heap.size + 2) (e := 3) (size := 1) ((W.alloc (.cells (madeCells #[.bool false] n) 4)).alloc (.cells (madeCells #[.bool false] D) 4)) (madeCells #[.int .i64 0] D) D (by simp) (by unfold maxLen; omega) (by rw [size_madeCells]; omega)
  simpa using this

end Go.Proofs.Qxb6600569a
