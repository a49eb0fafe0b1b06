/-
  THE READER BY ITS ALIAS.
-/
import Derived.Test.Qxb6602671aHead
import Derived.Test.Qxb6602671aParse
namespace Go.Proofs.Qxb6602671a
open Go.RowKit
set_option linter.unusedVariables false

set_option maxRecDepth 100000 in
set_option maxHeartbeats 1000000 in
theorem zzParse (b o n cap : Nat) (x : Nat → Nat) (w : World) (hx : ∀ j, x j < 256) (hn : wl (x 0) ≤ n) (hc : ∀ j, j < n → w.cell? ⟨b, o + j, none⟩ = some (.int .u8 (x j))) :
    Calls Try.prog 9 #[.slice (some ⟨b, o, none⟩) n cap] w (ParsePost w x) := by
  have hp := parse b o n cap x (w.alloc (.cells #[.int .u8 0, .int .u32 0] 29)) hx hn (fun j hj => cell_keep ((Below.refl _ _).alloc (Nat.le_refl _) _) (Nat.le_refl _) (hc j hj))
  have hrow : (w.alloc (.cells #[.int .u8 0, .int .u32 0] 29)).rowIs w.heap.size 29 2 (fun j => if j = 0 then .int .u8 0 else .int .u32 0) := World.rowIs_alloc w #[.int .u8 0, .int .u32 0] 29 _ (by intro i hi; match i, hi with | 0, _ => rfl | 1, _ => rfl)
  clear hc hn
  go_enter Try.func9, Try.ntmps9
  go_wp2_with (go_at_call 19; refine hp.mono ?_; rintro e w' ⟨rfl, hb⟩; have r1 := hrow.of_block (w' := w') (hb.block _ (by simp)); have c1 := r1.cell (i := 0) (by omega); have c2 := r1.cell (i := 1) (by omega); have c3 := r1.frozen 0; have c4 := r1.frozen 1)
  have g1 : ∀ v : Value, (w'.setCell ⟨w.heap.size, 0, none⟩ v).cell? ⟨w.heap.size, 0, none⟩ = some v := fun v => by
    have := (r1.set 0 v).cell (i := 0) (by omega)
    rw [this, if_pos rfl]
  have g2 : ∀ v u : Value, ((w'.setCell ⟨w.heap.size, 0, none⟩ v).setCell ⟨w.heap.size, 1, none⟩ u).cell? ⟨w.heap.size, 1, none⟩ = some u := fun v u => by
    have := ((r1.set 0 v).set 1 u).cell (i := 1) (by omega)
    rw [this, if_pos rfl]
  have hb2 : Below w.heap.size w w' := ((Below.refl _ _).alloc (Nat.le_refl _) _).trans (hb.mono (by simp))
  refine bodyPost_ret (v := .tuple #[.agg #[.int .u8 ((x 0 / 64 : Nat) : Int), .int .u32 (idOf x)], .int .i64 (wl (x 0))]) (by simp [results, go_sem, g1, g2]) rfl ?_
  exact ⟨rfl, (hb2.setCell (Nat.le_refl _) _).setCell (Nat.le_refl _) _⟩

end Go.Proofs.Qxb6602671a
