/-
  THE OTHER COPIES, and the sizes of the writers laws' arguments.
-/
import Derived.Test.Qxb6600569aBase
namespace Go.Proofs.Qxb6600569a
open Go.RowKit
set_option linter.unusedVariables false

theorem Try.info5 : (Try.prog.info? 5).map (fun i => (i.zero, i.size, i.bytes)) = some (some (.int .u8 0), 1, 1) := by kernel_rfl

set_option maxHeartbeats 400000 in
theorem copyU8 (a : Option Addr) (n cap : Nat) (z : Nat → Int) (w : World) (hn : n ≤ 65536) (ha : a = none → n = 0 ∧ cap = 0) (hrd : Rd w a n (fun j => .int .u8 (z j))) :
    Calls Try.prog 11 #[.slice a n cap] w (Copied w n (fun j => .int .u8 (z j))) := by
  have he := fun wx => Lib.run_eql_slice_nil (P := Try.prog) wx 22 5 a n cap 0 0 Try.underlying22
  have hmk := run_make_row' (P := Try.prog) 22 5 (.int .u8 0) 1 Try.underlying22 Try.info5 rfl .i64 .i64 n (by omega) (by omega)
  have HR : Hid (Rd w a n (fun j => .int .u8 (z j))) := hrd
  clear hrd
  cases a with
  | none =>
    obtain ⟨rfl, rfl⟩ := ha rfl
    go_enter Try.func11, Try.ntmps11
    go_wp2
    go_ret
    exact ⟨⟨none, 0, rfl, fun j hj => by omega⟩, Below.refl _ _⟩
  | some a =>
    clear ha
    go_enter Try.func11, Try.ntmps11
    go_wp2
    go_loopg [4] n (fun g i wr => ∃ k : Nat, k ≤ n ∧ g = n - k ∧ i = .int .i64 k ∧ wr.rowIs w.heap.size 5 n (fun i => if i < k then .int .u8 (z i) else .int .u8 0) ∧ Below w.heap.size w wr)
    case atStart => exact ⟨0, Nat.zero_le _, rfl, rfl, (World.rowIs_made _ _ _ _).congr (fun i _ => by simp), (Below.refl _ _).alloc (Nat.le_refl _) _⟩
    case round =>
      obtain ⟨k, hk, rfl, rfl, hrow, hbel⟩ := hrel
      by_cases hlt : k < n
      · obtain ⟨b, o, e, h1⟩ := HR.out k hlt
        cases e
        have h2 := cell_keep hbel (Nat.le_refl _) h1
        have h3 := hrow.cell hlt
        have h4 := hrow.frozen k
        go_wp2
        go_roundg (n - (k + 1))
        case measure => omega
        case rel => exact ⟨k + 1, by omega, rfl, by go_num, (hrow.set k (.int .u8 (z k))).congr (fill_step _ _ k), hbel.setCell (Nat.le_refl _) _⟩
      · have : k = n := by omega
        subst this
        go_wp2
        go_ret
        exact ⟨⟨_, _, rfl, Rd.row (hrow.congr (fun i hi => by simp [hi]))⟩, hbel⟩

theorem Try.info4 : (Try.prog.info? 4).map (fun i => (i.zero, i.size, i.bytes)) = some (some (.bool false), 1, 1) := by kernel_rfl

set_option maxHeartbeats 400000 in
theorem copyBool (a : Option Addr) (n cap : Nat) (z : Nat → Bool) (w : World) (hn : n ≤ 65536) (ha : a = none → n = 0 ∧ cap = 0) (hrd : Rd w a n (fun j => .bool (z j))) :
    Calls Try.prog 12 #[.slice a n cap] w (Copied w n (fun j => .bool (z j))) := by
  have he := fun wx => Lib.run_eql_slice_nil (P := Try.prog) wx 23 4 a n cap 0 0 Try.underlying23
  have hmk := run_make_row' (P := Try.prog) 23 4 (.bool false) 1 Try.underlying23 Try.info4 rfl .i64 .i64 n (by omega) (by omega)
  have HR : Hid (Rd w a n (fun j => .bool (z j))) := hrd
  clear hrd
  cases a with
  | none =>
    obtain ⟨rfl, rfl⟩ := ha rfl
    go_enter Try.func12, Try.ntmps12
    go_wp2
    go_ret
    exact ⟨⟨none, 0, rfl, fun j hj => by omega⟩, Below.refl _ _⟩
  | some a =>
    clear ha
    go_enter Try.func12, Try.ntmps12
    go_wp2
    go_loopg [4] n (fun g i wr => ∃ k : Nat, k ≤ n ∧ g = n - k ∧ i = .int .i64 k ∧ wr.rowIs w.heap.size 4 n (fun i => if i < k then .bool (z i) else .bool false) ∧ Below w.heap.size w wr)
    case atStart => exact ⟨0, Nat.zero_le _, rfl, rfl, (World.rowIs_made _ _ _ _).congr (fun i _ => by simp), (Below.refl _ _).alloc (Nat.le_refl _) _⟩
    case round =>
      obtain ⟨k, hk, rfl, rfl, hrow, hbel⟩ := hrel
      by_cases hlt : k < n
      · obtain ⟨b, o, e, h1⟩ := HR.out k hlt
        cases e
        have h2 := cell_keep hbel (Nat.le_refl _) h1
        have h3 := hrow.cell hlt
        have h4 := hrow.frozen k
        go_wp2
        go_roundg (n - (k + 1))
        case measure => omega
        case rel => exact ⟨k + 1, by omega, rfl, by go_num, (hrow.set k (.bool (z k))).congr (fill_step _ _ k), hbel.setCell (Nat.le_refl _) _⟩
      · have : k = n := by omega
        subst this
        go_wp2
        go_ret
        exact ⟨⟨_, _, rfl, Rd.row (hrow.congr (fun i hi => by simp [hi]))⟩, hbel⟩

theorem Try.info9 : (Try.prog.info? 9).map (fun i => (i.zero, i.size, i.bytes)) = some (some (.string ⟨#[]⟩), 1, 16) := by kernel_rfl

set_option maxHeartbeats 400000 in
theorem copyStr (a : Option Addr) (n cap : Nat) (z : Nat → ByteArray) (w : World) (hn : n ≤ 65536) (ha : a = none → n = 0 ∧ cap = 0) (hrd : Rd w a n (fun j => .string (z j))) :
    Calls Try.prog 13 #[.slice a n cap] w (Copied w n (fun j => .string (z j))) := by
  have he := fun wx => Lib.run_eql_slice_nil (P := Try.prog) wx 24 9 a n cap 0 0 Try.underlying24
  have hmk := run_make_row' (P := Try.prog) 24 9 (.string ⟨#[]⟩) 16 Try.underlying24 Try.info9 rfl .i64 .i64 n (by omega) (by omega)
  have HR : Hid (Rd w a n (fun j => .string (z j))) := hrd
  clear hrd
  cases a with
  | none =>
    obtain ⟨rfl, rfl⟩ := ha rfl
    go_enter Try.func13, Try.ntmps13
    go_wp2
    go_ret
    exact ⟨⟨none, 0, rfl, fun j hj => by omega⟩, Below.refl _ _⟩
  | some a =>
    clear ha
    go_enter Try.func13, Try.ntmps13
    go_wp2
    go_loopg [4] n (fun g i wr => ∃ k : Nat, k ≤ n ∧ g = n - k ∧ i = .int .i64 k ∧ wr.rowIs w.heap.size 9 n (fun i => if i < k then .string (z i) else .string ⟨#[]⟩) ∧ Below w.heap.size w wr)
    case atStart => exact ⟨0, Nat.zero_le _, rfl, rfl, (World.rowIs_made _ _ _ _).congr (fun i _ => by simp), (Below.refl _ _).alloc (Nat.le_refl _) _⟩
    case round =>
      obtain ⟨k, hk, rfl, rfl, hrow, hbel⟩ := hrel
      by_cases hlt : k < n
      · obtain ⟨b, o, e, h1⟩ := HR.out k hlt
        cases e
        have h2 := cell_keep hbel (Nat.le_refl _) h1
        have h3 := hrow.cell hlt
        have h4 := hrow.frozen k
        go_wp2
        go_roundg (n - (k + 1))
        case measure => omega
        case rel => exact ⟨k + 1, by omega, rfl, by go_num, (hrow.set k (.string (z k))).congr (fill_step _ _ k), hbel.setCell (Nat.le_refl _) _⟩
      · have : k = n := by omega
        subst this
        go_wp2
        go_ret
        exact ⟨⟨_, _, rfl, Rd.row (hrow.congr (fun i hi => by simp [hi]))⟩, hbel⟩

theorem Try.info2 : (Try.prog.info? 2).map (fun i => (i.zero, i.size, i.bytes)) = some (some (.int .i64 0), 1, 8) := by kernel_rfl

set_option maxHeartbeats 400000 in
theorem copyI64 (a : Option Addr) (n cap : Nat) (z : Nat → Int) (w : World) (hn : n ≤ 65536) (ha : a = none → n = 0 ∧ cap = 0) (hrd : Rd w a n (fun j => .int .i64 (z j))) :
    Calls Try.prog 14 #[.slice a n cap] w (Copied w n (fun j => .int .i64 (z j))) := by
  have he := fun wx => Lib.run_eql_slice_nil (P := Try.prog) wx 25 2 a n cap 0 0 Try.underlying25
  have hmk := run_make_row' (P := Try.prog) 25 2 (.int .i64 0) 8 Try.underlying25 Try.info2 rfl .i64 .i64 n (by omega) (by omega)
  have HR : Hid (Rd w a n (fun j => .int .i64 (z j))) := hrd
  clear hrd
  cases a with
  | none =>
    obtain ⟨rfl, rfl⟩ := ha rfl
    go_enter Try.func14, Try.ntmps14
    go_wp2
    go_ret
    exact ⟨⟨none, 0, rfl, fun j hj => by omega⟩, Below.refl _ _⟩
  | some a =>
    clear ha
    go_enter Try.func14, Try.ntmps14
    go_wp2
    go_loopg [4] n (fun g i wr => ∃ k : Nat, k ≤ n ∧ g = n - k ∧ i = .int .i64 k ∧ wr.rowIs w.heap.size 2 n (fun i => if i < k then .int .i64 (z i) else .int .i64 0) ∧ Below w.heap.size w wr)
    case atStart => exact ⟨0, Nat.zero_le _, rfl, rfl, (World.rowIs_made _ _ _ _).congr (fun i _ => by simp), (Below.refl _ _).alloc (Nat.le_refl _) _⟩
    case round =>
      obtain ⟨k, hk, rfl, rfl, hrow, hbel⟩ := hrel
      by_cases hlt : k < n
      · obtain ⟨b, o, e, h1⟩ := HR.out k hlt
        cases e
        have h2 := cell_keep hbel (Nat.le_refl _) h1
        have h3 := hrow.cell hlt
        have h4 := hrow.frozen k
        go_wp2
        go_roundg (n - (k + 1))
        case measure => omega
        case rel => exact ⟨k + 1, by omega, rfl, by go_num, (hrow.set k (.int .i64 (z k))).congr (fill_step _ _ k), hbel.setCell (Nat.le_refl _) _⟩
      · have : k = n := by omega
        subst this
        go_wp2
        go_ret
        exact ⟨⟨_, _, rfl, Rd.row (hrow.congr (fun i hi => by simp [hi]))⟩, hbel⟩

/-- What a reckoning of sizes leaves: some answer, and the world as it was. -/
structure SomeBool (w : World) (e : Ending) (w' : World) : Prop where
  out : ∃ b, e = .returned (.bool b)
  same : w = w'
structure SomeInt (w : World) (e : Ending) (w' : World) : Prop where
  out : ∃ n, e = .returned (.int .i64 n)
  same : w = w'

set_option maxHeartbeats 400000 in
set_option maxRecDepth 100000 in
theorem txnBytes_any (a0 a1 a2 a3 : Option Addr) (l0 l1 l2 l3 c0 c1 c2 c3 : Nat) (K : Nat → ByteArray) (w : World) (h0 : l0 ≤ 65536) (h1 : l1 ≤ 65536) (h2 : l2 ≤ 65536) (h3 : l3 ≤ 65536) (r : Rd w a2 l2 (fun j => .string (K j))) :
    Calls Try.prog 10 #[.slice a0 l0 c0, .slice a1 l1 c1, .slice a2 l2 c2, .slice a3 l3 c3] w (SomeInt w) := by
  have HR : Hid (Rd w a2 l2 (fun j => .string (K j))) := r
  clear r
  go_enter Try.func10, Try.ntmps10
  go_wp2
  go_loopg [9, 10] l2 (fun g t i wr => ∃ k : Nat, k ≤ l2 ∧ g = l2 - k ∧ i = .int .i64 k ∧ (∃ x, t = .int .i64 x) ∧ w = wr)
  case atStart => exact ⟨0, Nat.zero_le _, rfl, rfl, ⟨_, rfl⟩, rfl⟩
  case round =>
    obtain ⟨k, hk, rfl, rfl, ⟨x, rfl⟩, hw⟩ := hrel
    subst hw
    by_cases hlt : k < l2
    · obtain ⟨b, o, e, g1⟩ := HR.out k hlt
      subst e
      go_wp2
      all_goals first
        | (go_ret; exact ⟨⟨_, rfl⟩, rfl⟩)
        | (go_roundg (l2 - (k + 1))
           · exact ⟨k + 1, by omega, rfl, by go_num, ⟨_, rfl⟩, rfl⟩
           · omega)
    · go_wp2
      go_ret
      exact ⟨⟨_, rfl⟩, rfl⟩

set_option maxHeartbeats 400000 in
set_option maxRecDepth 100000 in
theorem bytes_four9 (a0 a1 a2 a3 : Option Addr) (l0 l1 l2 l3 c0 c1 c2 c3 : Nat) (K : Nat → ByteArray) (w : World) (h0 : l0 ≤ maxLen) (h1 : l1 ≤ maxLen) (h2 : l2 ≤ maxLen) (h3 : l3 ≤ maxLen) (r : Rd w a2 l2 (fun j => .string (K j))) :
    Calls Try.prog 9 #[.slice a0 l0 c0, .slice a1 l1 c1, .slice a2 l2 c2, .slice a3 l3 c3] w (SomeBool w) := by
  have HR : Hid (Rd w a2 l2 (fun j => .string (K j))) := r
  clear r
  unfold maxLen at h0 h1 h2 h3
  go_enter Try.func9, Try.ntmps9
  go_wp2
  all_goals try (go_ret; exact ⟨⟨_, rfl⟩, rfl⟩)
  go_loopg [9, 10] l2 (fun g t i wr => ∃ k : Nat, k ≤ l2 ∧ g = l2 - k ∧ i = .int .i64 k ∧ (∃ x, t = .int .i64 x) ∧ w = wr)
  case atStart => exact ⟨0, Nat.zero_le _, rfl, rfl, ⟨_, rfl⟩, rfl⟩
  case round =>
    obtain ⟨k, hk, rfl, rfl, ⟨x, rfl⟩, hw⟩ := hrel
    subst hw
    by_cases hlt : k < l2
    · obtain ⟨b, o, e, g1⟩ := HR.out k hlt
      subst e
      go_wp2
      all_goals first
        | (go_ret; exact ⟨⟨_, rfl⟩, rfl⟩)
        | (go_roundg (l2 - (k + 1))
           · exact ⟨k + 1, by omega, rfl, by go_num, ⟨_, rfl⟩, rfl⟩
           · omega)
    · go_wp2
      all_goals (go_ret; exact ⟨⟨_, rfl⟩, rfl⟩)

set_option maxHeartbeats 400000 in
set_option maxRecDepth 100000 in
theorem bytes_four18 (a0 a1 a2 a3 : Option Addr) (l0 l1 l2 l3 c0 c1 c2 c3 : Nat) (cut : Int) (K : Nat → ByteArray) (w : World) (h0 : l0 ≤ maxLen) (h1 : l1 ≤ maxLen) (h2 : l2 ≤ maxLen) (h3 : l3 ≤ maxLen) (r : Rd w a2 l2 (fun j => .string (K j))) :
    Calls Try.prog 18 #[.slice a0 l0 c0, .slice a1 l1 c1, .slice a2 l2 c2, .slice a3 l3 c3, .int .i64 cut] w (SomeBool w) := by
  have HR : Hid (Rd w a2 l2 (fun j => .string (K j))) := r
  clear r
  unfold maxLen at h0 h1 h2 h3
  go_enter Try.func18, Try.ntmps18
  go_wp2
  all_goals try (go_ret; exact ⟨⟨_, rfl⟩, rfl⟩)
  go_loopg [11, 12] l2 (fun g t i wr => ∃ k : Nat, k ≤ l2 ∧ g = l2 - k ∧ i = .int .i64 k ∧ (∃ x, t = .int .i64 x) ∧ w = wr)
  case atStart => exact ⟨0, Nat.zero_le _, rfl, rfl, ⟨_, rfl⟩, rfl⟩
  case round =>
    obtain ⟨k, hk, rfl, rfl, ⟨x, rfl⟩, hw⟩ := hrel
    subst hw
    by_cases hlt : k < l2
    · obtain ⟨b, o, e, g1⟩ := HR.out k hlt
      subst e
      go_wp2
      all_goals first
        | (go_ret; exact ⟨⟨_, rfl⟩, rfl⟩)
        | (go_roundg (l2 - (k + 1))
           · exact ⟨k + 1, by omega, rfl, by go_num, ⟨_, rfl⟩, rfl⟩
           · omega)
    · go_wp2
      all_goals (go_ret; exact ⟨⟨_, rfl⟩, rfl⟩)

end Go.Proofs.Qxb6600569a
