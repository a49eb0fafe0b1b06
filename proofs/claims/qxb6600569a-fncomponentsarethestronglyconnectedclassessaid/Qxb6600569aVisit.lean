/-
  'components$1': the closure 'visit'.
-/
import Derived.Test.Qxb6600569aAdj
import Derived.Test.Qxb6600569aTw
namespace Go.Proofs.Qxb6600569a
open Go.RowKit
open Tj (upd upd_same upd_other)
set_option linter.unusedVariables false

structure VisitPost (w : World) (B n : Nat) (s : Tj.St) (e : Ending) (w' : World) : Prop where
  ret : e = .returned (.tuple #[])
  tw : ∃ cv sv, TW w' B n s cv sv
  below : Below B w w'

theorem Try.info87 : (Try.prog.info? 87).map (fun i => (i.zero, i.size, i.bytes)) = some (some (.agg #[.int .i64 0, .int .i64 0]), 2, 16) := by kernel_rfl

set_option maxHeartbeats 1000000 in
set_option maxRecDepth 100000 in
theorem visit_any (B n v : Nat) (s : Tj.St) (cv sv : Value) (w : World) (h : TW w B n s cv sv) (hv : v < n) (hn : n ≤ 65536) (hvis : s.visits < n) (hst : s.stack.length ≤ n) (hcl : s.calls.length ≤ n) :
    Calls Try.prog 42 #[.int .i64 v, .pointer (some ⟨B + 7, 0, none⟩), .pointer (some ⟨B + 1, 0, none⟩), .pointer (some ⟨B + 3, 0, none⟩), .pointer (some ⟨B + 6, 0, none⟩), .pointer (some ⟨B + 5, 0, none⟩)] w (VisitPost w B n (Tj.visit s v)) := by
  obtain ⟨i0, hi, hz0, hz1, hz2⟩ := info_parts Try.info3
  obtain ⟨ii, hj, hy0, hy1, hy2⟩ := info_parts Try.info87
  have c7 : w.cell? ⟨B + 7, 0, none⟩ = some (.int .i64 s.visits) := h.visits.cell (by omega)
  have f7 := h.visits.frozen 0
  have c1 := h.orderBox.cell (i := 0) (by omega)
  have c3 := h.lowBox.cell (i := 0) (by omega)
  have c0 : w.cell? ⟨B, v, none⟩ = some (.int .i64 (s.order v)) := h.order.cell hv
  have f0 := h.order.frozen v
  have c2 : w.cell? ⟨B + 2, v, none⟩ = some (.int .i64 (s.low v)) := h.low.cell hv
  have f2 := h.low.frozen v
  have i1 : (0 : Int) ≤ (v : Int) := by omega
  have i2 : (v : Int) < (n : Int) := by omega
  go_enter Try.func42, Try.ntmps42
  go_wp2
  go_region
  have T1 : TW ((((w.setCell ⟨B + 7, 0, none⟩ (.int .i64 ((s.visits : Int) + 1))).setCell ⟨B, v, none⟩ (.int .i64 ((s.visits : Int) + 1))).setCell ⟨B + 2, v, none⟩ (.int .i64 ((s.visits : Int) + 1))).drew) B n
      { s with visits := s.visits + 1, order := upd s.order v (s.visits + 1), low := upd s.low v (s.visits + 1) } cv sv := (((h.setVisits (s.visits + 1)).setOrder v (s.visits + 1)).setLow v (s.visits + 1)).drew
  have B1 : Below B w ((((w.setCell ⟨B + 7, 0, none⟩ (.int .i64 ((s.visits : Int) + 1))).setCell ⟨B, v, none⟩ (.int .i64 ((s.visits : Int) + 1))).setCell ⟨B + 2, v, none⟩ (.int .i64 ((s.visits : Int) + 1))).drew) :=
    ((((Below.refl B w).setCell (by simp) _).setCell (by simp) _).setCell (by simp) _).drew
  generalize ((((w.setCell ⟨B + 7, 0, none⟩ (.int .i64 ((s.visits : Int) + 1))).setCell ⟨B, v, none⟩ (.int .i64 ((s.visits : Int) + 1))).setCell ⟨B + 2, v, none⟩ (.int .i64 ((s.visits : Int) + 1))).drew) = W1 at T1 B1 ⊢
  clear c0 c1 c2 c3 c7 f0 f2 f7
  have c6 := T1.stackBox.cell (i := 0) (by omega)
  have f6 := T1.stackBox.frozen 0
  have hb1 := T1.big
  have hs1 := T1.stack
  go_wp2_with (at_builtin; refine wpList_append_lies _ rfl (.tmp 17) (.tmp 19) 59 rfl (B + 8) 3 i0 (.int .i64 0) 1 8 Try.underlying59 hi hz0 hz1 hz2 rfl (by decide) sv s.stack.length (stackCells s.stack) rfl (hs1.alloc _) ⟨W1.heap.size, 0, none⟩ 1 1 [.int .i64 v] rfl rfl (cell_one_new _ _ _) ?h1 (by decide) ?h2 ?h3 ?h4 (W1.heap.size + 1) (by simp) ?_)
  case h1 => first | rfl | (intro x hx; simp at hx; subst hx; rfl)
  case h2 => unfold maxLen; omega
  case h3 => omega
  case h4 => first | omega | (simp; omega)
  intro g1 cap1 w1 hown hgrow hat hlt1
  obtain ⟨q3, q4, T2⟩ := T1.pushStack (fun k hk => Below.heap_alloc W1 _ k hk) (by simp) hown hgrow (by simpa using hat)
  have B2 : Below B w (w1.setCell ⟨B + 6, 0, none⟩ (.slice (some ⟨g1, 0, none⟩) (s.stack.length + 1) cap1)) := ((B1.alloc (by omega) _).grown hgrow (by simp; omega) (fun j hj => Nat.le_trans (by omega) (T1.stack.lt j hj).1)).setCell (by simp) _
  clear hown hgrow hat hlt1 c6 f6 hs1 B1 hb1
  clear T1
  have c5 : w1.cell? ⟨B + 5, 0, none⟩ = some cv := by
    have := T2.callsBox.cell (i := 0) (by omega)
    rwa [World.cell?_setCell_other _ _ _ _ (by simp)] at this
  have f5 := T2.callsBox.frozen 0
  have hs2 := T2.calls
  have hb2 : B + 8 ≤ w1.heap.size := by have := T2.big; simpa using this
  go_wp2_with (at_builtin; refine wpList_append_lies _ rfl (.tmp 21) (.tmp 24) 85 rfl (B + 8) 87 ii (.agg #[.int .i64 0, .int .i64 0]) 2 16 Try.underlying85 hj hy0 hy1 hy2 rfl (by decide) cv s.calls.length (callCells s.calls) rfl (hs2.alloc _) ⟨w1.heap.size, 0, none⟩ 1 1 [.int .i64 v, .int .i64 0] rfl rfl ?h0 ?h1 (by decide) ?h2 ?h3 ?h4 (w1.heap.size + 1) (by simp) ?_)
  case h1 => exact ⟨rfl, rfl⟩
  case h2 => unfold maxLen; omega
  case h3 => omega
  case h4 => omega
  intro g2 cap2 w2 hown hgrow hat hlt2
  obtain ⟨q5, q6, T3⟩ := T2.pushCalls (k := 0) (fun k hk => Below.heap_alloc _ _ k hk) (by simp) hown hgrow (by simpa using hat)
  have B3 : Below B w (w2.setCell ⟨B + 5, 0, none⟩ (.slice (some ⟨g2, 0, none⟩) (s.calls.length + 1) cap2)) := ((B2.alloc (by simp; omega) _).grown hgrow (by simp; omega) (fun j hj => Nat.le_trans (by omega) (T2.calls.lt j hj).1)).setCell (by simp) _
  clear hown hgrow hat hlt2 c5 f5 hs2 B2 hb2 T2 q3 q4
  go_wp2
  go_end0
  exact ⟨rfl, ⟨_, _, T3⟩, B3⟩

end Go.Proofs.Qxb6600569a
