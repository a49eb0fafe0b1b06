/-
  THE WALKS OF THE HEADER's WRITER AND READER.
-/
import Derived.Test.Qxb6602671aBase
import Derived.Deep.RegionWith
namespace Go.Proofs.Qxb6602671a
open Go.RowKit
set_option linter.unusedVariables false

abbrev hdr (t i : Nat) : Value := .agg #[.int .u8 t, .int .u32 i]
abbrev hobj (t i : Nat) : Obj := .cells #[.int .u8 t, .int .u32 i] 29

/-- The byte j of the header of type t and id i. -/
def enc (t i j : Nat) : Nat := if i ≤ 63 then 64 * t + i else if i ≤ 319 then (if j = 0 then 64 * t else i - 64) else if j = 0 then 64 * t + 1 else if j = 1 then (i - 64) % 256 else (i - 64) / 256

structure PutPost (w : World) (b T N : Nat) (F : Nat → Value) (t i : Nat) (e : Ending) (w' : World) : Prop where
  ret : e = .returned (.int .i64 (room i))
  row : w'.rowIs b T N (fun j => if j < room i then .int .u8 (enc t i j) else F j)
  keep : ∀ k, k < w.heap.size → k ≠ b → w'.heap[k]? = w.heap[k]?
  below : ∀ B, B ≤ b → Below B w w'

theorem or64 (t i : Nat) (ht : t ≤ 3) (hi : i < 64) : bits .or .u8 ((64 * t : Nat) : Int) (i : Int) = ((64 * t + i : Nat) : Int) := by
  rw [u8_or_nat _ _ (by omega) (by omega), nat_join 6 (64 * t) i (by omega) (by omega)]

theorem keep_set_alloc (w : World) (o : Obj) {b j : Nat} (v : Value) : ∀ k, k < w.heap.size → k ≠ b → ((w.setCell ⟨b, j, none⟩ v).alloc o).heap[k]? = w.heap[k]? := by
  intro k hk hkb
  rw [Below.heap_alloc _ _ _ (by simpa using hk), Below.heap_setCell _ _ _ _ (by simpa using hkb)]

set_option maxHeartbeats 1000000 in
set_option maxRecDepth 100000 in
theorem put (b n cap T N : Nat) (F : Nat → Value) (t i : Nat) (w : World) (ht : t ≤ 3) (hi2 : 2 ≤ i) (hi : i ≤ 65599) (hn : room i ≤ n) (hN : n ≤ N) (hrow : w.rowIs b T N F) :
    Calls Try.prog 20 #[.slice (some ⟨b, 0, none⟩) n cap, hdr t i] w (PutPost w b T N F t i) := by
  have hb := hrow.lt
  have hr := hrow.alloc (hobj t i)
  by_cases c1 : i < 64
  · have hn0 : 1 ≤ n := by unfold room at hn; split at hn <;> omega
    have f1 := hrow.cell (i := 0) (by omega)
    have f2 := hrow.frozen 0
    have ho := or64 t i ht c1
    go_enter Try.func20, Try.ntmps20
    go_wp2
    go_ret
    refine ⟨ret_int (by unfold room; rw [if_pos (by omega)]; rfl), ?_, ?_, ?_⟩
    · have et : (t : Int) * 64 = ((64 * t : Nat) : Int) := by omega
      rw [et, ho]
      refine ((hrow.set 0 _).alloc _).congr ?_
      intro j _
      have : room i = 1 := by unfold room; rw [if_pos (by omega)]
      by_cases e : j = 0
      · subst e
        rw [if_pos rfl, if_pos (by omega)]
        unfold enc
        rw [if_pos (by omega)]
      · rw [if_neg e, if_neg (by omega)]
    · exact keep_set_alloc w _ _
    · intro B hB
      exact ((Below.refl B w).setCell hB _).alloc (by simp; omega) _
  · by_cases c2 : i < 320
    · have hr2 : room i = 2 := by unfold room; rw [if_neg (by omega), if_pos (by omega)]
      have f1 := hrow.cell (i := 0) (by omega)
      have f2 := hrow.frozen 0
      have f3 := hrow.cell (i := 1) (by omega)
      have f4 := hrow.frozen 1
      go_enter Try.func20, Try.ntmps20
      go_wp2
      go_ret
      refine ⟨ret_int (by rw [hr2]; rfl), ?_, ?_, ?_⟩
      · have et : (t : Int) * 64 = ((64 * t : Nat) : Int) := by omega
        have e2 : (i : Int) - 64 = ((i - 64 : Nat) : Int) := by omega
        rw [et, e2]
        refine (((hrow.set 0 _).set 1 _).alloc _).congr ?_
        intro j _
        by_cases e1 : j = 1
        · subst e1
          rw [if_pos rfl, if_pos (by omega)]
          unfold enc
          rw [if_neg (by omega), if_pos (by omega), if_neg (by omega)]
        · rw [if_neg e1]
          by_cases e : j = 0
          · subst e
            rw [if_pos rfl, if_pos (by omega)]
            unfold enc
            rw [if_neg (by omega), if_pos (by omega), if_pos rfl]
          · rw [if_neg e, if_neg (by omega)]
      · exact fun k hk hkb => (keep_set_alloc (w.setCell _ _) _ _ k (by simpa using hk) hkb).trans (Below.heap_setCell _ _ _ _ (by simpa using hkb))
      · intro B hB
        exact (((Below.refl B w).setCell hB _).setCell hB _).alloc (by simp; omega) _
    · have hr2 : room i = 3 := by unfold room; rw [if_neg (by omega), if_neg (by omega)]
      have f1 := hrow.cell (i := 0) (by omega)
      have f2 := hrow.frozen 0
      have f3 := hrow.cell (i := 1) (by omega)
      have f4 := hrow.frozen 1
      have f5 := hrow.cell (i := 2) (by omega)
      have f6 := hrow.frozen 2
      have ho := or64 t 1 ht (by omega)
      go_enter Try.func20, Try.ntmps20
      go_wp2
      go_ret
      refine ⟨ret_int (by rw [hr2]; rfl), ?_, ?_, ?_⟩
      · have et : (t : Int) * 64 = ((64 * t : Nat) : Int) := by omega
        have e2 : ((i : Int) - 64) % 256 = (((i - 64) % 256 : Nat) : Int) := by omega
        have e3 : ((i : Int) - 64) / 256 = (((i - 64) / 256 : Nat) : Int) := by omega
        have e4 : bits .or .u8 ((64 * t : Nat) : Int) 1 = ((64 * t + 1 : Nat) : Int) := ho
        rw [et, e2, e3, e4]
        refine ((((hrow.set 0 _).set 1 _).set 2 _).alloc _).congr ?_
        intro j _
        by_cases e5 : j = 2
        · subst e5
          rw [if_pos rfl, if_pos (by omega)]
          unfold enc
          rw [if_neg (by omega), if_neg (by omega), if_neg (by omega), if_neg (by omega)]
        · rw [if_neg e5]
          by_cases e1 : j = 1
          · subst e1
            rw [if_pos rfl, if_pos (by omega)]
            unfold enc
            rw [if_neg (by omega), if_neg (by omega), if_neg (by omega), if_pos (by omega)]
          · rw [if_neg e1]
            by_cases e : j = 0
            · subst e
              rw [if_pos rfl, if_pos (by omega)]
              unfold enc
              rw [if_neg (by omega), if_neg (by omega), if_pos rfl]
            · rw [if_neg e, if_neg (by omega)]
      · exact fun k hk hkb => (keep_set_alloc ((w.setCell _ _).setCell _ _) _ _ k (by simpa using hk) hkb).trans ((Below.heap_setCell _ _ _ _ (by simpa using hkb)).trans (Below.heap_setCell _ _ _ _ (by simpa using hkb)))
      · intro B hB
        exact ((((Below.refl B w).setCell hB _).setCell hB _).setCell hB _).alloc (by simp; omega) _

set_option maxHeartbeats 1000000 in
set_option maxRecDepth 100000 in
/-- .. by its alias. -/
theorem zzPut (b n cap T N : Nat) (F : Nat → Value) (t i : Nat) (w : World) (ht : t ≤ 3) (hi2 : 2 ≤ i) (hi : i ≤ 65599) (hn : room i ≤ n) (hN : n ≤ N) (hrow : w.rowIs b T N F) :
    Calls Try.prog 10 #[.slice (some ⟨b, 0, none⟩) n cap, hdr t i] w (PutPost w b T N F t i) := by
  have hb := hrow.lt
  have hr := hrow.alloc (hobj t i)
  have hp := put b n cap T N F t i (w.alloc (hobj t i)) ht hi2 hi hn hN hr
  have hq : Calls Try.prog 20 #[.slice (some ⟨b, 0, none⟩) n cap, hdr t i] (w.alloc (hobj t i)) (PutPost w b T N F t i) :=
    hp.mono fun e w' h => ⟨h.ret, h.row, fun k hk hkb => (h.keep k (by simp; omega) hkb).trans (Below.heap_alloc _ _ _ hk), fun B hB => ((Below.refl B w).alloc (by omega) _).trans (h.below B hB)⟩
  clear hp hrow hr
  go_enter Try.func10, Try.ntmps10
  go_wp2_with (go_at_call 20; refine hq.mono ?_; rintro e w' ⟨rfl, h1, h2, h3⟩)
  go_ret
  exact ⟨rfl, h1, h2, h3⟩

end Go.Proofs.Qxb6602671a
