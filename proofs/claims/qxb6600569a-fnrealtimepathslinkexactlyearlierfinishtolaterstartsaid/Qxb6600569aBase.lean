/-
  THE SMALL WALKS over verisolate's laws: the bounds on lengths, the lesser of two.
-/
import Derived.Test.Qxb6600569aRows
import Derived.WalkKit
import Derived.WalkSpells
import Derived.WalkLawsBesides
import Derived.Deep.OwnRows
import Derived.Deep.LoopGhost
namespace Go.Proofs.Qxb6600569a
open Go.RowKit

theorem ret_bool {a b : Bool} (h : a = b) : Ending.returned (.bool a) = .returned (.bool b) := by rw [h]
theorem ret_int {k : IntKind} {a b : Int} (h : a = b) : Ending.returned (.int k a) = .returned (.int k b) := by rw [h]

set_option maxHeartbeats 400000 in
theorem bytes_two (f : Nat) (hf : f = 30 ∨ f = 34) (n : Int) (a1 a2 : Option Addr) (l1 c1 l2 c2 : Nat) (w : World) (h1 : l1 ≤ maxLen) (h2 : l2 ≤ maxLen) :
    Calls Try.prog f #[.int .i64 n, .slice a1 l1 c1, .slice a2 l2 c2] w fun e w' => e = .returned (.bool (decide (l1 + l2 ≤ 1048576))) ∧ w' = w := by
  unfold maxLen at h1 h2
  rcases hf with rfl | rfl
  · go_enter Try.func30, Try.ntmps30
    go_wp2
    all_goals (go_ret; exact ⟨ret_bool (by simp; omega), rfl⟩)
  · go_enter Try.func34, Try.ntmps34
    go_wp2
    all_goals (go_ret; exact ⟨ret_bool (by simp; omega), rfl⟩)

set_option maxHeartbeats 400000 in
theorem min2_any (a b : Int) (w : World) : Calls Try.prog 20 #[.int .i64 a, .int .i64 b] w fun e w' => e = .returned (.int .i64 (min a b)) ∧ w' = w := by
  go_enter Try.func20, Try.ntmps20
  go_wp2
  all_goals (go_ret; exact ⟨ret_int (by omega), rfl⟩)

theorem min2_nat (a b m : Nat) (hm : m = min a b) (w : World) : Calls Try.prog 20 #[.int .i64 a, .int .i64 b] w fun e w' => e = .returned (.int .i64 m) ∧ w' = w := by
  refine (min2_any _ _ _).mono ?_
  rintro e w' ⟨rfl, rfl⟩
  exact ⟨ret_int (by omega), rfl⟩

/-- WHAT IS TOLD OF A SLICE (elements of one cell) THAT IS READ: where it has an element, it leads to the cells 'F 0', 'F 1', .. -/
def Rd (w : World) (a : Option Addr) (n : Nat) (F : Nat → Value) : Prop := ∀ j, j < n → ∃ b o, a = some ⟨b, o, none⟩ ∧ w.cell? ⟨b, o + j, none⟩ = some (F j)

theorem addr_of_cell {w : World} {a : Addr} {v : Value} (h : w.cell? (a.add 0) = some v) : a = ⟨a.block, a.off, none⟩ := by
  obtain ⟨b, o, s⟩ := a
  cases s with
  | none => rfl
  | some x =>
    exfalso
    simp only [Addr.add, if_true] at h
    simp only [World.cell?, Option.isSome_some, if_true] at h
    split at h <;> simp at h

theorem add_lit (b o j : Nat) : (⟨b, o, none⟩ : Addr).add j = ⟨b, o + j, none⟩ := by unfold Addr.add; split <;> simp_all

/-- A cell that was there before, in a world that is as it was below. -/
theorem cell_keep {B : Nat} {w wr : World} {a : Addr} {v : Value} (h : Below B w wr) (hB : w.heap.size ≤ B) (hc : w.cell? a = some v) : wr.cell? a = some v := by
  rw [h.cell (Nat.lt_of_lt_of_le (World.block_lt_of_cell? w a hc) hB)]; exact hc


theorem Rd.keep {B : Nat} {w wr : World} {a : Option Addr} {n : Nat} {F : Nat → Value} (r : Rd w a n F) (h : Below B w wr) (hB : w.heap.size ≤ B) : Rd wr a n F := fun j hj =>
  let ⟨b, o, e, hc⟩ := r j hj
  ⟨b, o, e, cell_keep h hB hc⟩

theorem Rd.row {w : World} {b T n : Nat} {F : Nat → Value} (h : w.rowIs b T n F) : Rd w (some ⟨b, 0, none⟩) n F := fun j hj => ⟨b, 0, rfl, by simpa using h.cell hj⟩

/-- .. out of cells told by 'Addr.add'. -/
theorem Rd.of_add {w : World} {a : Addr} {n : Nat} {F : Nat → Value} (h : ∀ j, j < n → w.cell? (a.add j) = some (F j)) : Rd w (some a) n F := by
  intro j hj
  have ha := addr_of_cell (h 0 (by omega))
  refine ⟨a.block, a.off, congrArg some ha, ?_⟩
  have := h j hj
  rw [ha, add_lit] at this
  exact this

/-- What a row that is filled from its head holds one step on. -/
theorem fill_step (F : Nat → Value) (z : Value) (k : Nat) {n : Nat} : ∀ i, i < n → (if i = k then F k else if i < k then F i else z) = (if i < k + 1 then F i else z) := by
  intro i _
  by_cases e : i = k
  · subst e; simp
  · simp only [e, if_false]
    by_cases e' : i < k
    · rw [if_pos e', if_pos (by omega)]
    · rw [if_neg e', if_neg (by omega)]

theorem Try.info76 : (Try.prog.info? 76).map (fun i => (i.zero, i.size, i.bytes)) = some (some (.int .u16 0), 1, 2) := by kernel_rfl

/-- WHAT A COPY LEAVES: a slice of the same cells; nothing that was there has turned. -/
structure Copied (w : World) (n : Nat) (F : Nat → Value) (e : Ending) (w' : World) : Prop where
  out : ∃ a c, e = .returned (.slice a n c) ∧ Rd w' a n F
  below : Below w.heap.size w w'

set_option maxHeartbeats 400000 in
theorem copyU16 (a : Option Addr) (n cap : Nat) (z : Nat → Int) (w : World) (hn : n ≤ 65536) (ha : a = none → n = 0 ∧ cap = 0) (hrd : Rd w a n (fun j => .int .u16 (z j))) :
    Calls Try.prog 21 #[.slice a n cap] w (Copied w n (fun j => .int .u16 (z j))) := by
  have he := fun wx => Lib.run_eql_slice_nil (P := Try.prog) wx 47 76 a n cap 0 0 Try.underlying47
  have hmk := run_make_row' (P := Try.prog) 47 76 (.int .u16 0) 2 Try.underlying47 Try.info76 rfl .i64 .i64 n (by omega) (by omega)
  have HR : Hid (Rd w a n (fun j => .int .u16 (z j))) := hrd
  clear hrd
  cases a with
  | none =>
    obtain ⟨rfl, rfl⟩ := ha rfl
    go_enter Try.func21, Try.ntmps21
    go_wp2
    go_ret
    exact ⟨⟨none, 0, rfl, fun j hj => by omega⟩, Below.refl _ _⟩
  | some a =>
    clear ha
    go_enter Try.func21, Try.ntmps21
    go_wp2
    go_loopg [4] n (fun g i wr => ∃ k : Nat, k ≤ n ∧ g = n - k ∧ i = .int .i64 k ∧ wr.rowIs w.heap.size 76 n (fun i => if i < k then .int .u16 (z i) else .int .u16 0) ∧ Below w.heap.size w wr)
    case atStart => exact ⟨0, Nat.zero_le _, rfl, rfl, (World.rowIs_made _ _ _ _).congr (fun i _ => by simp), (Below.refl _ _).alloc (Nat.le_refl _) _⟩
    case round =>
      obtain ⟨k, hk, rfl, rfl, hrow, hbel⟩ := hrel
      by_cases hlt : k < n
      · obtain ⟨b, o, e, h1⟩ := HR.out k hlt
        cases e
        have h2 := cell_keep hbel (Nat.le_refl _) h1
        have h3 := hrow.cell hlt
        have h4 := hrow.frozen k
        go_wp2
        go_roundg (n - (k + 1))
        case measure => omega
        case rel => exact ⟨k + 1, by omega, rfl, by go_num, (hrow.set k (.int .u16 (z k))).congr (fill_step _ _ k), hbel.setCell (Nat.le_refl _) _⟩
      · have : k = n := by omega
        subst this
        go_wp2
        go_ret
        exact ⟨⟨_, _, rfl, Rd.row (hrow.congr (fun i hi => by simp [hi]))⟩, hbel⟩

end Go.Proofs.Qxb6600569a
