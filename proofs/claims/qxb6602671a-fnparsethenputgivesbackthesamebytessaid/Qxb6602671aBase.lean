/-
  THE SMALL WALKS over interleave's laws: lengths, the copy.
-/
import Derived.Test.Qxb6602671aRows
import Derived.WalkKit
import Derived.WalkSpells
import Derived.WalkLawsBesides
import Derived.Deep.OwnRows
import Derived.Deep.LoopGhost
import Derived.Laws.BitsAllLaws
namespace Go.Proofs.Qxb6602671a
open Go.RowKit
set_option linter.unusedVariables false

theorem ret_bool {a b : Bool} (h : a = b) : Ending.returned (.bool a) = .returned (.bool b) := by rw [h]
theorem ret_int {k : IntKind} {a b : Int} (h : a = b) : Ending.returned (.int k a) = .returned (.int k b) := by rw [h]

theorem bytes_parse (a : Option Addr) (n cap : Nat) (w : World) (hn : n ≤ maxLen) :
    Calls Try.prog 6 #[.slice a n cap] w fun e w' => e = .returned (.bool (decide (n ≤ 1048576))) ∧ w' = w := by
  unfold maxLen at hn
  go_enter Try.func6, Try.ntmps6
  go_wp2
  all_goals (go_ret; exact ⟨ret_bool (by simp; omega), rfl⟩)

theorem bytes_put (a : Option Addr) (n cap : Nat) (t i : Int) (w : World) (hn : n ≤ maxLen) :
    Calls Try.prog 11 #[.slice a n cap, .int .u8 t, .int .u32 i] w fun e w' => e = .returned (.bool (decide (n ≤ 1048576))) ∧ w' = w := by
  unfold maxLen at hn
  go_enter Try.func11, Try.ntmps11
  go_wp2
  all_goals (go_ret; exact ⟨ret_bool (by simp; omega), rfl⟩)

/-- The length that a first byte announces. -/
def wl (b : Nat) : Nat := if b % 64 = 0 then 2 else if b % 64 = 1 then 3 else 1

theorem wl_bounds (b : Nat) : 1 ≤ wl b ∧ wl b ≤ 3 := by unfold wl; split <;> (try split) <;> omega

theorem wireLen (b : Nat) (hb : b < 256) (w : World) : Calls Try.prog 7 #[.int .u8 b] w fun e w' => e = .returned (.int .i64 (wl b)) ∧ w' = w := by
  go_enter Try.func7, Try.ntmps7
  go_wp2
  all_goals (go_ret; refine ⟨ret_int ?_, rfl⟩; simp only [beq_iff_eq, beq_eq_false_iff_ne, ne_eq] at *; unfold wl; split <;> (try split) <;> omega)

theorem headerLen (b : Nat) (hb : b < 256) (w : World) : Calls Try.prog 22 #[.int .u8 b] w fun e w' => e = .returned (.int .i64 (wl b)) ∧ w' = w := by
  have e : bits .and .u8 (b : Int) 63 = ((b % 64 : Nat) : Int) := by
    rw [show (63 : Int) = ((63 : Nat) : Int) from rfl, u8_and_nat b 63 hb (by omega), nat_mask6]
  go_enter Try.func22, Try.ntmps22
  go_wp2
  all_goals (go_ret; refine ⟨ret_int ?_, rfl⟩; simp only [beq_iff_eq, beq_eq_false_iff_ne, ne_eq] at *; unfold wl; split <;> (try split) <;> omega)

def room (i : Nat) : Nat := if i ≤ 63 then 1 else if i ≤ 319 then 2 else 3

theorem headerRoom (i : Nat) (hi : i < 4294967296) (w : World) : Calls Try.prog 12 #[.int .u32 i] w fun e w' => e = .returned (.int .i64 (room i)) ∧ w' = w := by
  go_enter Try.func12, Try.ntmps12
  go_wp2
  all_goals (go_ret; exact ⟨ret_int (by unfold room; split <;> (try split) <;> omega), rfl⟩)

def rowOf (z : Nat → Nat) : Nat → Value := fun j => .int .u8 (z j)

theorem cell_keep {B : Nat} {w wr : World} {a : Addr} {v : Value} (h : Below B w wr) (hB : w.heap.size ≤ B) (hc : w.cell? a = some v) : wr.cell? a = some v := by
  rw [h.cell (Nat.lt_of_lt_of_le (World.block_lt_of_cell? w a hc) hB)]; exact hc

theorem fill_step (F : Nat → Value) (z : Value) (k : Nat) {n : Nat} : ∀ i, i < n → (if i = k then F k else if i < k then F i else z) = (if i < k + 1 then F i else z) := by
  intro i _
  by_cases e : i = k
  · subst e; simp
  · simp only [e, if_false]
    by_cases e' : i < k
    · rw [if_pos e', if_pos (by omega)]
    · rw [if_neg e', if_neg (by omega)]

theorem Try.info5 : (Try.prog.info? 5).map (fun i => (i.zero, i.size, i.bytes)) = some (some (.int .u8 0), 1, 1) := by kernel_rfl

structure Cloned (w : World) (n : Nat) (z : Nat → Nat) (e : Ending) (w' : World) : Prop where
  out : e = .returned (.slice (some ⟨w.heap.size, 0, none⟩) n n)
  row : w'.rowIs w.heap.size 5 n (rowOf z)
  below : Below w.heap.size w w'

theorem clone (b o n cap : Nat) (z : Nat → Nat) (w : World) (hn : n ≤ 1048576) (hrd : ∀ j, j < n → w.cell? ⟨b, o + j, none⟩ = some (.int .u8 (z j))) :
    Calls Try.prog 8 #[.slice (some ⟨b, o, none⟩) n cap] w (Cloned w n z) := by
  have he := fun wx => Lib.run_eql_slice_nil (P := Try.prog) wx 22 5 (some ⟨b, o, none⟩) n cap 0 0 Try.underlying22
  have hmk := run_make_row' (P := Try.prog) 22 5 (.int .u8 0) 1 Try.underlying22 Try.info5 rfl .i64 .i64 n (by omega) (by omega)
  have HR : Hid (∀ j, j < n → w.cell? ⟨b, o + j, none⟩ = some (.int .u8 (z j))) := hrd
  clear hrd
  go_enter Try.func8, Try.ntmps8
  go_wp2
  go_loopg [4] n (fun g i wr => ∃ k : Nat, k ≤ n ∧ g = n - k ∧ i = .int .i64 k ∧ wr.rowIs w.heap.size 5 n (fun i => if i < k then .int .u8 (z i) else .int .u8 0) ∧ Below w.heap.size w wr)
  case atStart => exact ⟨0, Nat.zero_le _, rfl, rfl, (World.rowIs_made _ _ _ _).congr (fun i _ => by simp), (Below.refl _ _).alloc (Nat.le_refl _) _⟩
  case round =>
    obtain ⟨k, hk, rfl, rfl, hrow, hbel⟩ := hrel
    by_cases hlt : k < n
    · have h1 := HR.out k hlt
      have h2 := cell_keep hbel (Nat.le_refl _) h1
      have h3 := hrow.cell hlt
      have h4 := hrow.frozen k
      go_wp2
      go_roundg (n - (k + 1))
      case measure => omega
      case rel => exact ⟨k + 1, by omega, rfl, by go_num, (hrow.set k (.int .u8 (z k))).congr (fill_step (rowOf z) _ k), hbel.setCell (Nat.le_refl _) _⟩
    · have : k = n := by omega
      subst this
      go_wp2
      go_ret
      exact ⟨rfl, hrow.congr (fun i hi => by simp [hi, rowOf]), hbel⟩

end Go.Proofs.Qxb6602671a
