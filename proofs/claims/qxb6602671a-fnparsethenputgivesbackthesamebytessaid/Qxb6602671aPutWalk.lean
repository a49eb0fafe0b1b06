/-
  THE WALK OF 'FnPutThenParseRoundTrips'.
-/
import Derived.Test.Qxb6602671aZz
namespace Go.Proofs.Qxb6602671a
open Go.RowKit
set_option linter.unusedVariables false

/-- The bytes of f behind the writer. -/
def mix (t i : Nat) (z : Nat → Nat) (j : Nat) : Nat := if j < room i then enc t i j else z j

theorem room_cases (i : Nat) : (i ≤ 63 ∧ room i = 1) ∨ (64 ≤ i ∧ i ≤ 319 ∧ room i = 2) ∨ (320 ≤ i ∧ room i = 3) := by
  unfold room
  by_cases h : i ≤ 63
  · exact .inl ⟨h, if_pos h⟩
  · by_cases h' : i ≤ 319
    · exact .inr (.inl ⟨by omega, h', by rw [if_neg h, if_pos h']⟩)
    · exact .inr (.inr ⟨by omega, by rw [if_neg h, if_neg h']⟩)

theorem enc_lt (t i j : Nat) (ht : t ≤ 3) (hi : i ≤ 65599) : enc t i j < 256 := by
  unfold enc
  split
  · omega
  · split
    · split <;> omega
    · split
      · omega
      · split <;> omega

theorem mix_lt (t i : Nat) (z : Nat → Nat) (ht : t ≤ 3) (hi : i ≤ 65599) (hz : ∀ j, z j < 256) (j : Nat) : mix t i z j < 256 := by
  unfold mix
  split
  · exact enc_lt t i j ht hi
  · exact hz j

/-- THE PLAIN LAW: what is put is read back. -/
theorem read_back (t i : Nat) (z : Nat → Nat) (ht : t ≤ 3) (hi2 : 2 ≤ i) (hi : i ≤ 65599) :
    mix t i z 0 / 64 = t ∧ idOf (mix t i z) = i ∧ wl (mix t i z 0) = room i ∧ mix t i z 0 = enc t i 0 := by
  rcases room_cases i with ⟨h1, h2⟩ | ⟨h1, h1', h2⟩ | ⟨h1, h2⟩
  · have e0 : mix t i z 0 = 64 * t + i := by unfold mix enc; rw [h2, if_pos (by omega), if_pos h1]
    refine ⟨by omega, ?_, ?_, by rw [e0]; unfold enc; rw [if_pos h1]⟩
    · unfold idOf; rw [e0, if_neg (by omega), if_neg (by omega)]; omega
    · unfold wl; rw [e0, if_neg (by omega), if_neg (by omega), h2]
  · have e0 : mix t i z 0 = 64 * t := by unfold mix enc; rw [h2, if_pos (by omega), if_neg (by omega), if_pos (by omega), if_pos rfl]
    have e1 : mix t i z 1 = i - 64 := by unfold mix enc; rw [h2, if_pos (by omega), if_neg (by omega), if_pos (by omega), if_neg (by omega)]
    refine ⟨by omega, ?_, ?_, by rw [e0]; unfold enc; rw [if_neg (by omega), if_pos (by omega), if_pos rfl]⟩
    · unfold idOf; rw [e0, e1, if_pos (by omega)]; omega
    · unfold wl; rw [e0, if_pos (by omega), h2]
  · have e0 : mix t i z 0 = 64 * t + 1 := by unfold mix enc; rw [h2, if_pos (by omega), if_neg (by omega), if_neg (by omega), if_pos rfl]
    have e1 : mix t i z 1 = (i - 64) % 256 := by unfold mix enc; rw [h2, if_pos (by omega), if_neg (by omega), if_neg (by omega), if_neg (by omega), if_pos rfl]
    have e2 : mix t i z 2 = (i - 64) / 256 := by unfold mix enc; rw [h2, if_pos (by omega), if_neg (by omega), if_neg (by omega), if_neg (by omega), if_neg (by omega)]
    refine ⟨by omega, ?_, ?_, by rw [e0]; unfold enc; rw [if_neg (by omega), if_neg (by omega), if_pos rfl]⟩
    · unfold idOf; rw [e0, e1, e2, if_neg (by omega), if_pos (by omega)]; omega
    · unfold wl; rw [e0, if_neg (by omega), if_pos (by omega), h2]

structure Done (w : World) (e : Ending) (w' : World) : Prop where
  ret : e = .returned (.bool true)
  below : Below w.heap.size w w'

structure PutGot (H Q n t i : Nat) (z : Nat → Nat) (w : World) (e : Ending) (w' : World) : Prop where
  ret : e = .returned (.int .i64 (room i))
  row : w'.rowIs H 5 n (rowOf (mix t i z))
  bx : w'.rowIs Q 29 2 (fun j => if j = 0 then .int .u8 t else .int .u32 i)
  below : Below H w w'
  size : w.heap.size ≤ H

theorem put_walk_main (b o n cap t i : Nat) (z : Nat → Nat) (w : World) (hn : n ≤ 1048576) (hz : ∀ j, z j < 256) (ht : t ≤ 3) (hi2 : 2 ≤ i) (hi : i ≤ 65599) (hr : room i ≤ n) (hc : ∀ j, j < n → w.cell? ⟨b, o + j, none⟩ = some (.int .u8 (z j))) :
    Calls Try.prog 4 #[.slice (some ⟨b, o, none⟩) n cap, .int .u8 t, .int .u32 i] w (Done w) := by
  have hR := room_cases i
  have hr1 : 1 ≤ room i := by omega
  have hr3 : room i ≤ 3 := by omega
  have q1 := bytes_put (some ⟨b, o, none⟩) n cap t i w (by unfold maxLen; omega)
  have q2 := headerRoom i (by omega) w
  have q3 := clone b o n cap z w hn hc
  have q4 : ∀ w1, w1.rowIs w.heap.size 5 n (rowOf z) → Below w.heap.size w w1 → Calls Try.prog 10 #[.slice (some ⟨w.heap.size, 0, none⟩) n n, hdr t i] (w1.alloc (hobj t i)) (PutGot w.heap.size w1.heap.size n t i z w) := by
    intro w1 h1 h2
    refine (zzPut w.heap.size n n 5 n (rowOf z) t i _ ht hi2 hi hr (Nat.le_refl _) (h1.alloc _)).mono ?_
    rintro e w' ⟨g1, g2, g3, g4⟩
    have hbx : (w1.alloc (hobj t i)).rowIs w1.heap.size 29 2 (fun j => if j = 0 then .int .u8 t else .int .u32 i) := World.rowIs_alloc w1 #[.int .u8 t, .int .u32 i] 29 _ (by intro k hk; match k, hk with | 0, _ => rfl | 1, _ => rfl)
    have hlt := h1.lt
    refine ⟨g1, g2.congr fun j _ => ?_, hbx.of_block (g3 _ (by simp) (by omega)), (h2.alloc (by omega) _).trans (g4 _ (Nat.le_refl _)), Nat.le_refl _⟩
    unfold rowOf mix
    split <;> rfl
  obtain ⟨p1, p2, p3, p4⟩ := read_back t i z ht hi2 hi
  have q5 : ∀ w, Calls Try.prog 7 #[.int .u8 (mix t i z 0)] w fun e w' => e = .returned (.int .i64 (room i)) ∧ w' = w := by
    intro w
    rw [← p3]
    exact wireLen (mix t i z 0) (mix_lt t i z ht hi hz 0) w
  have q6 : ∀ w2 : World, w2.rowIs w.heap.size 5 n (rowOf (mix t i z)) → Calls Try.prog 9 #[.slice (some ⟨w.heap.size, 0, none⟩) n n] w2 fun e w' => e = .returned (.tuple #[hdr t i, .int .i64 (room i)]) ∧ Below w2.heap.size w2 w' := by
    intro w2 h2
    refine (zzParse w.heap.size 0 n n (mix t i z) w2 (mix_lt t i z ht hi hz) (by omega) (fun j hj => by rw [Nat.zero_add]; exact h2.cell hj)).mono ?_
    rintro e w' ⟨g1, g2⟩
    rw [p1, p2, p3] at g1
    exact ⟨g1, g2⟩
  clear p1 p2 p3 p4
  have d1 : decide (n ≤ 1048576) = true := by simpa using hn
  have i1 : ¬ (1048576 : Int) < (n : Int) := by omega
  have i2 : ¬ (3 : Int) < (t : Int) := by omega
  have i3 : ¬ (i : Int) < 2 := by omega
  have i4 : ¬ (65599 : Int) < (i : Int) := by omega
  have i5 : ¬ (n : Int) < (room i : Int) := by omega
  have i6 : ¬ (room i : Int) < 1 := by omega
  have i7 : (0 : Int) < (n : Int) := by omega
  clear hc hR
  go_enter Try.func4, Try.ntmps4
  go_wp2_with (first
    | (go_at_call 11; refine q1.mono ?_; rintro e w' ⟨rfl, rfl⟩)
    | (go_at_call 12; refine q2.mono ?_; rintro e w' ⟨rfl, rfl⟩)
    | (go_at_call 8; refine q3.mono ?_; rintro e w1 ⟨rfl, r1, b1⟩)
    | (go_at_call 10; refine (q4 w1 r1 b1).mono ?_; rintro e w2 ⟨rfl, r2, x2, b2, _⟩; have c0 : w2.cell? ⟨w'.heap.size, 0, none⟩ = some (.int .u8 (mix t i z 0)) := r2.cell (i := 0) (by omega); clear r1 b1 q1 q2 q3 q4)
    | (go_at_call 7; refine (q5 _).mono ?_; rintro e w9 ⟨rfl, rfl⟩)
    | (go_at_call 9; refine (q6 _ r2).mono ?_; rintro e w3 ⟨rfl, b3⟩; have x3 := x2.of_block (w' := w3) (b3.block _ x2.lt); have c1 : ∀ o', (w3.alloc o').cell? ⟨w1.heap.size, 0, none⟩ = some (.int .u8 t) := fun o' => (x3.alloc o').cell (i := 0) (by omega); have c2 : ∀ o', (w3.alloc o').cell? ⟨w1.heap.size, 1, none⟩ = some (.int .u32 i) := fun o' => (x3.alloc o').cell (i := 1) (by omega)))
  go_ret
  exact ⟨rfl, (b2.trans (b3.mono b2.size)).alloc (Nat.le_trans b2.size b3.size) _⟩

theorem put_walk_early (a : Option Addr) (n cap t i : Nat) (w : World) (hn : n ≤ maxLen) (ht : t < 256) (hi : i < 4294967296) (h : ¬ (n ≤ 1048576 ∧ t ≤ 3 ∧ 2 ≤ i ∧ i ≤ 65599 ∧ room i ≤ n)) :
    Calls Try.prog 4 #[.slice a n cap, .int .u8 t, .int .u32 i] w (Done w) := by
  have q1 := bytes_put a n cap t i w hn
  have q2 := headerRoom i hi w
  have HH : Hid (¬ (n ≤ 1048576 ∧ t ≤ 3 ∧ 2 ≤ i ∧ i ≤ 65599 ∧ room i ≤ n)) := h
  clear h
  by_cases c1 : n ≤ 1048576
  · have d1 : decide (n ≤ 1048576) = true := by simpa using c1
    have i1 : ¬ (1048576 : Int) < (n : Int) := by omega
    by_cases c2 : t ≤ 3 ∧ 2 ≤ i ∧ i ≤ 65599
    · have i2 : ¬ (3 : Int) < (t : Int) := by omega
      have i3 : ¬ (i : Int) < 2 := by omega
      have i4 : ¬ (65599 : Int) < (i : Int) := by omega
      have i5 : (n : Int) < (room i : Int) := by have := HH.out; omega
      have i5' : n < room i := by omega
      go_enter Try.func4, Try.ntmps4
      go_wp2_with (first
        | (go_at_call 11; refine q1.mono ?_; rintro e w' ⟨rfl, rfl⟩)
        | (go_at_call 12; refine q2.mono ?_; rintro e w' ⟨rfl, rfl⟩))
      go_ret
      exact ⟨rfl, Below.refl _ _⟩
    · go_enter Try.func4, Try.ntmps4
      go_wp2_with (first
        | (go_at_call 11; refine q1.mono ?_; rintro e w' ⟨rfl, rfl⟩)
        | (go_at_call 12; exfalso; simp at *; omega))
      all_goals (go_ret; exact ⟨rfl, Below.refl _ _⟩)
  · have d1 : decide (n ≤ 1048576) = false := by simpa using c1
    go_enter Try.func4, Try.ntmps4
    go_wp2_with (go_at_call 11; refine q1.mono ?_; rintro e w' ⟨rfl, rfl⟩)
    go_ret
    exact ⟨rfl, Below.refl _ _⟩

end Go.Proofs.Qxb6602671a
