/-
  'zzRtTxns', 'ZZNewIndex': transactions with a start, a finish and a state.
-/
import Derived.Test.Qxb6600569aTxns
namespace Go.Proofs.Qxb6600569a
open Go.RowKit
set_option linter.unusedVariables false
set_option linter.unusedSimpArgs false

/-- The six cells of a transaction. -/
def rtCell (s f : Int) (c : Bool) (j : Nat) : Value := if j = 0 then .string ⟨#[]⟩ else if j = 1 then .string ⟨#[]⟩ else if j = 2 then .int .i64 s else if j = 3 then .int .i64 f else if j = 4 then .int .i8 (if c then 0 else 1) else .slice none 0 0

/-- The cells when k of them are laid. -/
def rtTo (s f : Nat → Int) (c : Nat → Bool) (k : Nat) : Nat → Nat → Value := fun i j => if i < k then rtCell (s i) (f i) (c i) j else rtCell 0 0 true j

def rtAll (s f : Nat → Int) (c : Nat → Bool) : Nat → Nat → Value := fun i j => rtCell (s i) (f i) (c i) j

structure RtPost (w : World) (n : Nat) (s f : Nat → Int) (c : Nat → Bool) (e : Ending) (w' : World) : Prop where
  ret : e = .returned (.slice (some ⟨w.heap.size, 0, none⟩) n n)
  row : w'.rowIs w.heap.size 40 (n * 6) (wide 6 (rtAll s f c))
  below : Below w.heap.size w w'

theorem rt_step (s f : Nat → Int) (c : Nat → Bool) (k : Nat) (i j : Nat) (hj : j < 6) :
    updC (updC (updC (updC (updC (updC (rtTo s f c k) k 0 (.string ⟨#[]⟩)) k 1 (.string ⟨#[]⟩)) k 2 (.int .i64 (s k))) k 3 (.int .i64 (f k))) k 4 (.int .i8 (if c k then 0 else 1))) k 5 (.slice none 0 0) i j = rtTo s f c (k + 1) i j := by
  unfold updC
  by_cases e : i = k
  · subst e
    have : j = 0 ∨ j = 1 ∨ j = 2 ∨ j = 3 ∨ j = 4 ∨ j = 5 := by omega
    rcases this with rfl | rfl | rfl | rfl | rfl | rfl <;> simp [rtTo, rtCell]
  · simp only [e, false_and, if_false]
    unfold rtTo
    by_cases e' : i < k
    · rw [if_pos e', if_pos (by omega)]
    · rw [if_neg e', if_neg (by omega)]

set_option maxHeartbeats 1000000 in
set_option maxRecDepth 100000 in
theorem rtTxns (a1 a2 a3 : Option Addr) (n1 c1 n2 c2 n3 c3 n : Nat) (s f : Nat → Int) (ab : Nat → Bool) (w : World) (hn : n = min n1 (min n2 n3)) (hb : n ≤ 65536) (h1 : n1 ≤ 65536) (h2 : n2 ≤ 65536) (h3 : n3 ≤ 65536)
    (r1 : Rd w a1 n1 (fun j => .int .i64 (s j))) (r2 : Rd w a2 n2 (fun j => .int .i64 (f j))) (r3 : Rd w a3 n3 (fun j => .bool (ab j))) :
    Calls Try.prog 22 #[.slice a1 n1 c1, .slice a2 n2 c2, .slice a3 n3 c3] w (RtPost w n s f (fun i => !ab i)) := by
  have hmk := run_make_wide (P := Try.prog) 32 40 (.agg #[.string ⟨#[]⟩, .string ⟨#[]⟩, .int .i64 0, .int .i64 0, .int .i8 0, .slice none 0 0]) 6 80 Try.underlying32 Try.info40 .i64 .i64 n (by omega) (by omega)
  have q1 := fun wx => min2_nat n2 n3 (min n2 n3) rfl wx
  have q2 := fun wx => min2_nat n1 (min n2 n3) n hn wx
  have H1 : Hid (Rd w a1 n1 (fun j => .int .i64 (s j))) := r1
  have H2 : Hid (Rd w a2 n2 (fun j => .int .i64 (f j))) := r2
  have H3 : Hid (Rd w a3 n3 (fun j => .bool (ab j))) := r3
  have HN : Hid (n = min n1 (min n2 n3)) := hn
  clear r1 r2 r3 hn
  go_enter Try.func22, Try.ntmps22
  go_wp2_with (first
    | (go_at_call 20; refine (q2 _).mono ?_; rintro e w' ⟨rfl, rfl⟩)
    | (go_at_call 20; refine (q1 _).mono ?_; rintro e w' ⟨rfl, rfl⟩))
  clear hmk q1 q2
  go_loopg [9, 10] n (fun g i sl wr => ∃ k : Nat, k ≤ n ∧ g = n - k ∧ i = .int .i64 k ∧ wr.rowIs w'.heap.size 40 (n * 6) (wide 6 (rtTo s f (fun i => !ab i) k)) ∧ Below w'.heap.size w' wr)
  case atStart =>
    refine ⟨0, Nat.zero_le _, rfl, rfl, ?_, (Below.refl _ _).alloc (Nat.le_refl _) _⟩
    refine (rowIs_made_wide w' #[.string ⟨#[]⟩, .string ⟨#[]⟩, .int .i64 0, .int .i64 0, .int .i8 0, .slice none 0 0] (fun j => rtCell 0 0 true j) n 6 40 _ rfl rfl (by omega) ?_).congr (fun x _ => by simp [wide, rtTo])
    intro j hj
    have : j = 0 ∨ j = 1 ∨ j = 2 ∨ j = 3 ∨ j = 4 ∨ j = 5 := by omega
    rcases this with rfl | rfl | rfl | rfl | rfl | rfl <;> simp [rtCell]
  case round =>
    obtain ⟨k, hk, rfl, rfl, hrow, hbel⟩ := hrel
    have hN := HN.out
    by_cases hlt : k < n
    · obtain ⟨b1, o1, e1, g1⟩ := H1.out k (by omega)
      obtain ⟨b2, o2, e2, g2⟩ := H2.out k (by omega)
      obtain ⟨b3, o3, e3, g3⟩ := H3.out k (by omega)
      cases e1; cases e2; cases e3
      have g1 : wr.cell? ⟨b1, o1 + k, none⟩ = some (.int .i64 (s k)) := cell_keep hbel (Nat.le_refl _) g1
      have g2 : wr.cell? ⟨b2, o2 + k, none⟩ = some (.int .i64 (f k)) := cell_keep hbel (Nat.le_refl _) g2
      have g3 : wr.cell? ⟨b3, o3 + k, none⟩ = some (.bool (ab k)) := cell_keep hbel (Nat.le_refl _) g3
      have x0 := rowIs_cellAt hrow hlt (j := 0) (by omega)
      rw [Nat.add_zero] at x0
      have x1 := rowIs_cellAt hrow hlt (j := 1) (by omega)
      have x2 := rowIs_cellAt hrow hlt (j := 2) (by omega)
      have x3 := rowIs_cellAt hrow hlt (j := 3) (by omega)
      have x4 := rowIs_cellAt hrow hlt (j := 4) (by omega)
      have x5 := rowIs_cellAt hrow hlt (j := 5) (by omega)
      have y := hrow.frozen
      have y0 := y (k * 6)
      have y1 := y (k * 6 + 1)
      have y2 := y (k * 6 + 2)
      have y3 := y (k * 6 + 3)
      have y4 := y (k * 6 + 4)
      have y5 := y (k * 6 + 5)
      clear y
      have m1 : (k : Int) < (n1 : Int) := by omega
      have m2 : (k : Int) < (n2 : Int) := by omega
      have m3 : (k : Int) < (n3 : Int) := by omega
      have m4 : (k : Int) < (n : Int) := by omega
      have m5 : k < n1 := by omega
      have m6 : k < n2 := by omega
      have m7 : k < n3 := by omega
      have m0 : (0 : Int) ≤ (k : Int) := by omega
      clear hN
      cases hab : ab k with
      | true =>
        rw [hab] at g3
        go_wp2
        go_region
        all_goals
          go_wp2
          go_roundg (n - (k + 1))
          case measure => omega
          case rel =>
            refine ⟨k + 1, by omega, rfl, by go_num, ?_, ((((((hbel.setCell (Nat.le_refl _) _).setCell (Nat.le_refl _) _).setCell (Nat.le_refl _) _).setCell (Nat.le_refl _) _).setCell (Nat.le_refl _) _).setCell (Nat.le_refl _) _).drew⟩
            have z0 := rowIs_setAt hrow k 0 (.string ⟨#[]⟩) (by omega)
            rw [Nat.add_zero] at z0
            refine World.rowIs.drew ((rowIs_setAt (rowIs_setAt (rowIs_setAt (rowIs_setAt (rowIs_setAt z0 k 1 _ (by omega)) k 2 _ (by omega)) k 3 _ (by omega)) k 4 _ (by omega)) k 5 _ (by omega)).congr fun x hx => ?_)
            have hst := rt_step s f (fun i => !ab i) k (x / 6) (x % 6) (Nat.mod_lt _ (by omega))
            simp only [hab, Bool.not_true, Bool.not_false, if_true, if_false, Bool.false_eq_true] at hst
            unfold wide
            exact hst
      | false =>
        rw [hab] at g3
        go_wp2
        go_region
        all_goals
          go_wp2
          go_roundg (n - (k + 1))
          case measure => omega
          case rel =>
            refine ⟨k + 1, by omega, rfl, by go_num, ?_, ((((((hbel.setCell (Nat.le_refl _) _).setCell (Nat.le_refl _) _).setCell (Nat.le_refl _) _).setCell (Nat.le_refl _) _).setCell (Nat.le_refl _) _).setCell (Nat.le_refl _) _).drew⟩
            have z0 := rowIs_setAt hrow k 0 (.string ⟨#[]⟩) (by omega)
            rw [Nat.add_zero] at z0
            refine World.rowIs.drew ((rowIs_setAt (rowIs_setAt (rowIs_setAt (rowIs_setAt (rowIs_setAt z0 k 1 _ (by omega)) k 2 _ (by omega)) k 3 _ (by omega)) k 4 _ (by omega)) k 5 _ (by omega)).congr fun x hx => ?_)
            have hst := rt_step s f (fun i => !ab i) k (x / 6) (x % 6) (Nat.mod_lt _ (by omega))
            simp only [hab, Bool.not_true, Bool.not_false, if_true, if_false, Bool.false_eq_true] at hst
            unfold wide
            exact hst
    · have : k = n := by omega
      subst this
      go_wp2
      go_ret
      exact ⟨rfl, hrow.congr (fun x hx => by
        have hx' : x / 6 < k := Nat.div_lt_of_lt_mul (by omega)
        simp [wide, rtTo, rtAll, hx']), hbel⟩

end Go.Proofs.Qxb6600569a
