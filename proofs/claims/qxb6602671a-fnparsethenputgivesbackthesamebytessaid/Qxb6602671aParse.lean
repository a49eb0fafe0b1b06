/-
  THE WALK OF THE HEADER's READER.
-/
import Derived.Test.Qxb6602671aBase
import Derived.Deep.RegionWith
import Derived.Deep.RegionHeldLaw
import Derived.Deep.RegionLaw
import Derived.Deep.CutRange
namespace Go.Proofs.Qxb6602671a
open Go.RowKit
set_option linter.unusedVariables false

/-- The id that the bytes x spell. -/
def idOf (x : Nat → Nat) : Nat := if x 0 % 64 = 0 then x 1 + 64 else if x 0 % 64 = 1 then 256 * x 2 + x 1 + 64 else x 0 % 64

structure ParsePost (w : World) (x : Nat → Nat) (e : Ending) (w' : World) : Prop where
  ret : e = .returned (.tuple #[.agg #[.int .u8 ((x 0 / 64 : Nat) : Int), .int .u32 (idOf x)], .int .i64 (wl (x 0))])
  below : Below w.heap.size w w'

set_option maxRecDepth 100000 in
set_option maxHeartbeats 1000000 in
theorem parse (b o n cap : Nat) (x : Nat → Nat) (w : World) (hx : ∀ j, x j < 256) (hn : wl (x 0) ≤ n) (hc : ∀ j, j < n → w.cell? ⟨b, o + j, none⟩ = some (.int .u8 (x j))) :
    Calls Try.prog 19 #[.slice (some ⟨b, o, none⟩) n cap] w (ParsePost w x) := by
  have hwl := wl_bounds (x 0)
  have h0 : w.cell? ⟨b, o, none⟩ = some (.int .u8 (x 0)) := hc 0 (by omega)
  have hx0 := hx 0
  have hx1 := hx 1
  have hx2 := hx 2
  have hn0 : (0 : Int) < (n : Int) := by omega
  have hn1 : 0 < n := by omega
  have hk0 : ∀ o', (w.alloc o').cell? ⟨b, o, none⟩ = some (.int .u8 (x 0)) := fun o' => cell_keep ((Below.refl _ _).alloc (Nat.le_refl _) _) (Nat.le_refl _) h0
  have hk1 : ∀ o' o'', ((w.alloc o').alloc o'').cell? ⟨b, o, none⟩ = some (.int .u8 (x 0)) := fun o' o'' => cell_keep (((Below.refl _ _).alloc (Nat.le_refl _) _).alloc (by simp) _) (Nat.le_refl _) h0
  have hand : bits .and .u8 (x 0 : Int) 63 = ((x 0 % 64 : Nat) : Int) := by
    rw [show (63 : Int) = ((63 : Nat) : Int) from rfl, u8_and_nat _ 63 hx0 (by omega), nat_mask6]
  have HC : Hid (∀ j, j < n → w.cell? ⟨b, o + j, none⟩ = some (.int .u8 (x j))) := hc
  clear hc
  go_enter Try.func19, Try.ntmps19
  go_upto_region 1 with fail
  go_cut [2, 4, 5] from 6 to 14 (fun s2 s4 s5 wx => s2 = .pointer (some ⟨w.heap.size, 0, none⟩) ∧ s4 = .pointer (some ⟨w.heap.size + 1, 0, none⟩) ∧ s5 = .int .i64 (wl (x 0)) ∧ wx = ((w.alloc (.cells #[.int .u8 0, .int .u32 0] 29)).alloc (.cells #[.int .u8 ((x 0 : Int) / 64), .int .u32 0] 29)).drew)
  case first =>
    go_region_law ((go_simp; go_at_call 22; refine (headerLen (x 0) hx0 _).mono ?_; rintro e w' ⟨rfl, rfl⟩))
    all_goals (go_wp2_with fail; go_meet; exact ⟨rfl, rfl, rfl, rfl⟩)
  case rest =>
    obtain ⟨rfl, rfl, rfl, rfl⟩ := hcut
    have k2 : ∀ j, j < n → ∀ o' o'', ((w.alloc o').alloc o'').cell? ⟨b, o + j, none⟩ = some (.int .u8 (x j)) := fun j hj o' o'' => cell_keep (((Below.refl _ _).alloc (Nat.le_refl _) _).alloc (by simp) _) (Nat.le_refl _) (HC.out j hj)
    have K2 : Hid (∀ j, j < n → ∀ o' o'', ((w.alloc o').alloc o'').cell? ⟨b, o + j, none⟩ = some (.int .u8 (x j))) := k2
    clear k2
    by_cases m0 : x 0 % 64 = 0
    · have e1 : wl (x 0) = 2 := by unfold wl; rw [if_pos m0]
      rw [e1] at hn ⊢
      have hj : (1 : Int) < (n : Int) := by omega
      have c1 := K2.out 1 (by omega)
      go_wp2
      refine bodyPost_ret (v := .tuple #[.agg #[.int .u8 ((x 0 : Int) / 64), .int .u32 ((x 1 : Int) + 64)], .int .i64 2]) (by simp [results, go_sem]) rfl ?_
      refine ⟨?_, (((Below.refl _ _).alloc (Nat.le_refl _) _).alloc (by simp) _).drew⟩
      rw [e1]
      have ei : idOf x = x 1 + 64 := by unfold idOf; rw [if_pos m0]
      rw [ei]
      rfl
    · by_cases m1 : x 0 % 64 = 1
      · have e1 : wl (x 0) = 3 := by unfold wl; rw [if_neg m0, if_pos m1]
        rw [e1] at hn ⊢
        have hj : (1 : Int) < (n : Int) := by omega
        have hj2 : (2 : Int) < (n : Int) := by omega
        have hj' : 1 < n := by omega
        have hj2' : 2 < n := by omega
        have c1 := K2.out 1 (by omega)
        have c2 := K2.out 2 (by omega)
        go_wp2
        go_region
        all_goals
          go_wp2
          refine bodyPost_ret (v := .tuple #[.agg #[.int .u8 ((x 0 : Int) / 64), .int .u32 ((x 2 : Int) * 256 + (x 1 : Int) + 64)], .int .i64 3]) (by simp [results, go_sem]) rfl ?_
          refine ⟨?_, (((Below.refl _ _).alloc (Nat.le_refl _) _).alloc (by simp) _).drew.drew⟩
          rw [e1]
          have ei : idOf x = 256 * x 2 + x 1 + 64 := by unfold idOf; rw [if_neg m0, if_pos m1]
          rw [ei, Nat.mul_comm]
          rfl
      · have e1 : wl (x 0) = 1 := by unfold wl; rw [if_neg m0, if_neg m1]
        rw [e1] at hn ⊢
        go_wp2
        refine bodyPost_ret (v := .tuple #[.agg #[.int .u8 ((x 0 : Int) / 64), .int .u32 ((x 0 : Int) % 64)], .int .i64 1]) (by simp [results, go_sem]) rfl ?_
        refine ⟨?_, (((Below.refl _ _).alloc (Nat.le_refl _) _).alloc (by simp) _).drew⟩
        rw [e1]
        have ei : idOf x = x 0 % 64 := by unfold idOf; rw [if_neg m0, if_neg m1]
        rw [ei]
        rfl

end Go.Proofs.Qxb6602671a
