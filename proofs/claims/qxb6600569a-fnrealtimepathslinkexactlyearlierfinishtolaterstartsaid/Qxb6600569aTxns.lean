/-
  'zzBuildTxns': a slice of transactions, each with a slice of operations; elements of several cells.
-/
import Derived.Test.Qxb6600569aCopies
import Derived.Test.Qxb6600569aFam
import Derived.Test.Qxb6600569aWrPlain
import Derived.Deep.QuietTactic
import Derived.BigQuiet
namespace Go.Proofs.Qxb6600569a
open Go.RowKit
open Tj (upd upd_same upd_other)
set_option linter.unusedVariables false

/-! ### Rows of elements of several cells -/

/-- The cells of a row whose element i holds 'C i 0', 'C i 1', .. -/
def wide (size : Nat) (C : Nat → Nat → Value) : Nat → Value := fun x => C (x / size) (x % size)

theorem wide_at (size : Nat) (C : Nat → Nat → Value) (i j : Nat) (h : j < size) : wide size C (i * size + j) = C i j := by
  unfold wide
  have h1 : (i * size + j) / size = i := by rw [Nat.mul_comm, Nat.mul_add_div (by omega), Nat.div_eq_of_lt h]; omega
  have h2 : (i * size + j) % size = j := by rw [Nat.mul_comm, Nat.mul_add_mod, Nat.mod_eq_of_lt h]
  rw [h1, h2]

def updC (C : Nat → Nat → Value) (i j : Nat) (v : Value) : Nat → Nat → Value := fun i' j' => if i' = i ∧ j' = j then v else C i' j'

theorem wide_set (size : Nat) (C : Nat → Nat → Value) (i j : Nat) (v : Value) (h : j < size) : (fun x => if x = i * size + j then v else wide size C x) = wide size (updC C i j v) := by
  funext x
  have hs : 0 < size := by omega
  have hx : x = x / size * size + x % size := by rw [Nat.mul_comm]; exact (Nat.div_add_mod x size).symm
  by_cases e : x = i * size + j
  · rw [if_pos e, e, wide_at _ _ _ _ h]
    simp [updC]
  · rw [if_neg e]
    unfold wide updC
    rw [if_neg]
    rintro ⟨h1, h2⟩
    exact e (by rw [hx, h1, h2])

theorem rowIs_cellAt {w : World} {b T n size : Nat} {C : Nat → Nat → Value} (h : w.rowIs b T (n * size) (wide size C)) {i j : Nat} (hi : i < n) (hj : j < size) : w.cell? ⟨b, i * size + j, none⟩ = some (C i j) := by
  have hlt : i * size + j < n * size := by
    have : (i + 1) * size ≤ n * size := Nat.mul_le_mul_right _ hi
    rw [Nat.succ_mul] at this
    omega
  rw [h.cell hlt, wide_at _ _ _ _ hj]

theorem rowIs_setAt {w : World} {b T n size : Nat} {C : Nat → Nat → Value} (h : w.rowIs b T (n * size) (wide size C)) (i j : Nat) (v : Value) (hj : j < size) : (w.setCell ⟨b, i * size + j, none⟩ v).rowIs b T (n * size) (wide size (updC C i j v)) := by
  have := h.set (i * size + j) v
  rw [wide_set _ _ _ _ _ hj] at this
  exact this

/-- 'make([]T, n)', n a variable, T of several cells. -/
theorem run_make_wide {P : Program} (t e : TypeId) (z : Value) (size bytes : Nat) (ht : P.underlying t = some (.slice e)) (hinfo : (P.info? e).map (fun i => (i.zero, i.size, i.bytes)) = some (some z, size, bytes))
    (kl kc : IntKind) (n : Nat) (hbytes : bytes * n ≤ 281474976710656) (h63 : n ≤ 9223372036854775807) (w : World) :
    (Instr.makeSlice t (.int kl (n : Int)) (.int kc (n : Int))).run P w = .ok (.slice (some ⟨w.heap.size, 0, none⟩) n n) (w.alloc (.cells (madeCells z.cells (n * size)) e)) := by
  obtain ⟨i, hi, hz, hs, hb⟩ := info_parts hinfo
  have hb' : (i.bytes : Int) * (n : Int) ≤ 281474976710656 := by
    rw [hb]
    have h : ((bytes * n : Nat) : Int) ≤ 281474976710656 := by omega
    rwa [Int.natCast_mul] at h
  have hr := run_make (P := P) w t e i z ht hi hz kl kc n n (by omega) (Int.le_refl _) hb' (by omega)
  simp only [Int.toNat_natCast, hs] at hr
  exact hr

theorem rowIs_made_wide (w : World) (z : Array Value) (C : Nat → Value) (n size : Nat) (t : TypeId) (b : Nat) (hb : w.heap.size = b) (hs : z.size = size) (h0 : 0 < size) (hC : ∀ j, j < size → z[j]! = C j) :
    (w.alloc (.cells (madeCells z (n * size)) t)).rowIs b t (n * size) (wide size (fun _ j => C j)) := by
  subst hb
  refine ⟨_, heap_alloc_new w _, size_madeCells _ _, fun i hi => ?_⟩
  subst hs
  have := hC (i % z.size) (Nat.mod_lt _ h0)
  simp only [madeCells, Array.getElem?_map, Array.getElem?_range, hi, if_true, Option.map_some]
  rw [this]
  rfl

/-! ### Operations and transactions in memory -/

def opAt (L : List OpT) (j : Nat) : OpT := L.getD j ⟨false, ⟨#[]⟩, 0⟩
def kindOf (b : Bool) : Int := if b then 1 else 0

/-- The three cells of an operation. -/
def opCell (o : OpT) (f : Nat) : Value := if f = 0 then .int .i8 (kindOf o.wr) else if f = 1 then .string o.key else .int .i64 o.ver

/-- The six cells of a transaction whose operations are the slice v; its other fields zero. -/
def txnCell (v : Value) (f : Nat) : Value := if f = 0 then .string ⟨#[]⟩ else if f = 1 then .string ⟨#[]⟩ else if f = 2 then .int .i64 0 else if f = 3 then .int .i64 0 else if f = 4 then .int .i8 0 else v

theorem Try.info40 : (Try.prog.info? 40).map (fun i => (i.zero, i.size, i.bytes)) = some (some (.agg #[.string ⟨#[]⟩, .string ⟨#[]⟩, .int .i64 0, .int .i64 0, .int .i8 0, .slice none 0 0]), 6, 80) := by kernel_rfl
theorem Try.info43 : (Try.prog.info? 43).map (fun i => (i.zero, i.size, i.bytes)) = some (some (.agg #[.int .i8 0, .string ⟨#[]⟩, .int .i64 0]), 3, 32) := by kernel_rfl

/-- What the operation at place i of the four slices is. -/
def opOf (W : Nat → Bool) (K : Nat → ByteArray) (V : Nat → Int) (i : Nat) : OpT := ⟨W i, K i, V i⟩

def posTo (c : Nat → Nat) (m : Nat) : Nat → Nat
  | 0 => 0
  | t + 1 => posTo c m t + min (c t) (m - posTo c m t)

def opsAt (c : Nat → Nat) (m : Nat) (W : Nat → Bool) (K : Nat → ByteArray) (V : Nat → Int) (t : Nat) : List OpT :=
  (List.range (min (c t) (m - posTo c m t))).map fun j => opOf W K V (posTo c m t + j)

theorem posTo_le (c : Nat → Nat) (m t : Nat) : posTo c m t ≤ m := by
  induction t with
  | zero => exact Nat.zero_le _
  | succ t ih => simp only [posTo]; omega

theorem opsAt_len (c : Nat → Nat) (m : Nat) (W : Nat → Bool) (K : Nat → ByteArray) (V : Nat → Int) (t : Nat) : (opsAt c m W K V t).length = min (c t) (m - posTo c m t) := by simp [opsAt]

theorem opsAt_at (c : Nat → Nat) (m : Nat) (W : Nat → Bool) (K : Nat → ByteArray) (V : Nat → Int) (t j : Nat) (h : j < min (c t) (m - posTo c m t)) : opAt (opsAt c m W K V t) j = opOf W K V (posTo c m t + j) := by
  simp [opAt, opsAt, List.getD, h]

/-- The cells of the transactions when t of them have their operations. -/
def txnsC (bk : Nat → Nat) (O : Nat → List OpT) (t : Nat) : Nat → Nat → Value := fun i f => txnCell (if i < t then .slice (some ⟨bk i, 0, none⟩) (O i).length (O i).length else .slice none 0 0) f

/-- When t transactions are built. -/
structure AtB (w : World) (B n : Nat) (O : Nat → List OpT) (t : Nat) (bk : Nat → Nat) (wr : World) : Prop where
  row : wr.rowIs B 40 (n * 6) (wide 6 (txnsC bk O t))
  ops : ∀ i, i < t → wr.rowIs (bk i) 43 ((O i).length * 3) (wide 3 (fun j f => opCell (opAt (O i) j) f))
  up : ∀ i, i < t → B < bk i
  below : Below B w wr

theorem AtB.alloc {w wr : World} {B n t : Nat} {O : Nat → List OpT} {bk : Nat → Nat} (h : AtB w B n O t bk wr) (o : Obj) : AtB w B n O t bk (wr.alloc o) :=
  ⟨h.row.alloc o, fun i hi => (h.ops i hi).alloc o, h.up, h.below.alloc (by have := h.row.lt; omega) o⟩

theorem AtB.drew {w wr : World} {B n t : Nat} {O : Nat → List OpT} {bk : Nat → Nat} (h : AtB w B n O t bk wr) : AtB w B n O t bk wr.drew := ⟨h.row, h.ops, h.up, h.below.drew⟩

/-- A store into a block that is none of theirs. -/
theorem AtB.setOther {w wr : World} {B n t : Nat} {O : Nat → List OpT} {bk : Nat → Nat} (h : AtB w B n O t bk wr) {a : Addr} (v : Value) (h1 : B < a.block) (h2 : ∀ i, i < t → bk i ≠ a.block) : AtB w B n O t bk (wr.setCell a v) :=
  ⟨h.row.setOther (by omega) v, fun i hi => (h.ops i hi).setOther (h2 i hi) v, h.up, h.below.setCell (by omega) v⟩

/-- The operations of the next transaction are laid into its field. -/
theorem AtB.next {w wr : World} {B n t : Nat} {O : Nat → List OpT} {bk : Nat → Nat} (h : AtB w B n O t bk wr) {bo : Nat} (hbo : wr.rowIs bo 43 ((O t).length * 3) (wide 3 (fun j f => opCell (opAt (O t) j) f))) (hB : B < bo) :
    AtB w B n O (t + 1) (upd bk t bo) (wr.setCell ⟨B, t * 6 + 5, none⟩ (.slice (some ⟨bo, 0, none⟩) (O t).length (O t).length)) := by
  refine ⟨?_, fun i hi => ?_, fun i hi => ?_, h.below.setCell (Nat.le_refl _) _⟩
  · refine (rowIs_setAt h.row t 5 _ (by omega)).congr fun x hx => ?_
    have hf : x % 6 < 6 := Nat.mod_lt _ (by omega)
    unfold wide updC txnsC
    generalize x / 6 = i
    generalize x % 6 = f at hf
    by_cases e : i = t
    · subst e
      by_cases e5 : f = 5
      · subst e5; simp [txnCell, upd_same]
      · rw [if_neg (fun hh => e5 hh.2)]
        simp only [txnCell]
        repeat' split
        all_goals first | rfl | omega
    · rw [if_neg (fun hh => e hh.1), upd_other _ _ _ _ e]
      by_cases hlt : i < t
      · rw [if_pos hlt, if_pos (by omega)]
      · rw [if_neg hlt, if_neg (by omega)]
  · by_cases e : i = t
    · subst e; rw [upd_same]; exact hbo.setOther (show bo ≠ B by omega) _
    · rw [upd_other _ _ _ _ e]; have := h.up i (by omega); exact (h.ops i (by omega)).setOther (show bk i ≠ B by omega) _
  · by_cases e : i = t
    · subst e; rw [upd_same]; exact hB
    · rw [upd_other _ _ _ _ e]; exact h.up i (by omega)

theorem AtB.start (w : World) (B n : Nat) (O : Nat → List OpT) (hB : w.heap.size = B) : AtB w B n O 0 (fun _ => 0) (w.alloc (.cells (madeCells #[.string ⟨#[]⟩, .string ⟨#[]⟩, .int .i64 0, .int .i64 0, .int .i8 0, .slice none 0 0] (n * 6)) 40)) := by
  refine ⟨(rowIs_made_wide w _ (fun f => txnCell (.slice none 0 0) f) n 6 40 B hB rfl (by omega) ?_).congr fun x _ => by simp [wide, txnsC], fun i hi => by omega, fun i hi => by omega, (Below.refl B w).alloc (by omega) _⟩
  intro j hj
  match j, hj with
  | 0, _ => rfl
  | 1, _ => rfl
  | 2, _ => rfl
  | 3, _ => rfl
  | 4, _ => rfl
  | 5, _ => rfl

/-- The operations' row while it is filled. -/
def fillOps (f : Nat → OpT) (j : Nat) : Nat → Nat → Value := fun i q => if i < j then opCell (f i) q else opCell ⟨false, ⟨#[]⟩, 0⟩ q

theorem fill_op {w : World} {b n j : Nat} {f : Nat → OpT} (h : w.rowIs b 43 (n * 3) (wide 3 (fillOps f j))) :
    (((w.setCell ⟨b, j * 3, none⟩ (.int .i8 (kindOf (f j).wr))).setCell ⟨b, j * 3 + 1, none⟩ (.string (f j).key)).setCell ⟨b, j * 3 + 2, none⟩ (.int .i64 (f j).ver)).rowIs b 43 (n * 3) (wide 3 (fillOps f (j + 1))) := by
  have h1 := rowIs_setAt h j 0 (.int .i8 (kindOf (f j).wr)) (by omega)
  have h2 := rowIs_setAt h1 j 1 (.string (f j).key) (by omega)
  have h3 := rowIs_setAt h2 j 2 (.int .i64 (f j).ver) (by omega)
  refine h3.congr fun x hx => ?_
  have hf : x % 3 < 3 := Nat.mod_lt _ (by omega)
  unfold wide updC fillOps
  generalize x / 3 = i
  generalize x % 3 = q at hf
  by_cases e : i = j
  · subst e
    have : q = 0 ∨ q = 1 ∨ q = 2 := by omega
    rcases this with rfl | rfl | rfl <;> simp [opCell]
  · simp only [e, false_and, if_false]
    by_cases hlt : i < j
    · rw [if_pos hlt, if_pos (by omega)]
    · rw [if_neg hlt, if_neg (by omega)]

/-- TRANSACTIONS IN MEMORY, n of them, with the operations O. -/
def TxnsIs (w : World) (B n : Nat) (O : Nat → List OpT) : Prop :=
  ∃ bk : Nat → Nat, w.rowIs B 40 (n * 6) (wide 6 (txnsC bk O n)) ∧ ∀ i, i < n → w.rowIs (bk i) 43 ((O i).length * 3) (wide 3 (fun j f => opCell (opAt (O i) j) f))

structure BuildPost (w : World) (n : Nat) (O : Nat → List OpT) (e : Ending) (w' : World) : Prop where
  ret : e = .returned (.slice (some ⟨w.heap.size, 0, none⟩) n n)
  txns : TxnsIs w' w.heap.size n O
  below : Below w.heap.size w w'

set_option maxHeartbeats 1000000 in
set_option maxRecDepth 100000 in
theorem build_any (a0 a1 a2 a3 : Option Addr) (n l1 l2 l3 c0 c1 c2 c3 m B : Nat) (c : Nat → Nat) (W : Nat → Bool) (K : Nat → ByteArray) (V : Nat → Int) (w : World) (hB : w.heap.size = B) (hn : n ≤ 65536) (h1 : l1 ≤ 65536) (h2 : l2 ≤ 65536) (h3 : l3 ≤ 65536) (hm : m = min l1 (min l2 l3))
    (r0 : Rd w a0 n (fun j => .int .u8 (c j))) (r1 : Rd w a1 l1 (fun j => .bool (W j))) (r2 : Rd w a2 l2 (fun j => .string (K j))) (r3 : Rd w a3 l3 (fun j => .int .i64 (V j))) (hc : ∀ j, c j ≤ 255) :
    Calls Try.prog 15 #[.slice a0 n c0, .slice a1 l1 c1, .slice a2 l2 c2, .slice a3 l3 c3] w (BuildPost w n (opsAt c m W K V)) := by
  have hmk := run_make_wide (P := Try.prog) 32 40 (.agg #[.string ⟨#[]⟩, .string ⟨#[]⟩, .int .i64 0, .int .i64 0, .int .i8 0, .slice none 0 0]) 6 80 Try.underlying32 Try.info40 .i64 .i64 n (by omega) (by omega)
  obtain ⟨m2, hm2⟩ : ∃ m2, m2 = min l2 l3 := ⟨_, rfl⟩
  have hmm : m = min l1 m2 := by rw [hm2]; exact hm
  have HM2 : Hid (m2 = min l2 l3) := hm2
  have HM : Hid (m = min l1 m2) := hmm
  have q1 : m ≤ l1 := by omega
  have q2 : m ≤ l2 := by omega
  have q3 : m ≤ l3 := by omega
  clear hm hm2 hmm
  have R0 : Hid (Rd w a0 n (fun j => .int .u8 (c j))) := r0
  have R1 : Hid (Rd w a1 l1 (fun j => .bool (W j))) := r1
  have R2 : Hid (Rd w a2 l2 (fun j => .string (K j))) := r2
  have R3 : Hid (Rd w a3 l3 (fun j => .int .i64 (V j))) := r3
  clear r0 r1 r2 r3
  go_enter Try.func15, Try.ntmps15
  go_wp2_with fail
  refine (min2_nat l2 l3 m2 HM2.out _).mono ?_
  rintro e w' ⟨rfl, hw⟩
  have hw := hw.symm
  subst hw
  go_wp2_with fail
  refine (min2_nat l1 m2 m HM.out _).mono ?_
  rintro e w' ⟨rfl, hw⟩
  have hw := hw.symm
  subst hw
  go_wp2
  go_loopg [11, 12] n (fun q p i wr => ∃ t : Nat, t ≤ n ∧ q = n - t ∧ i = .int .i64 t ∧ p = .int .i64 (posTo c m t) ∧ ∃ bk, AtB w B n (opsAt c m W K V) t bk wr)
  case atStart => exact ⟨0, Nat.zero_le _, rfl, rfl, rfl, _, AtB.start w B n _ hB⟩
  case round =>
    obtain ⟨t, ht, rfl, rfl, rfl, bk, hat⟩ := hrel
    have hpos := posTo_le c m t
    obtain ⟨p, hp⟩ : ∃ p, posTo c m t = p := ⟨_, rfl⟩
    rw [hp] at hpos ⊢
    have HP : Hid (posTo c m t = p) := hp
    clear hp
    have HO : Hid (∀ j, j < min (c t) (m - p) → opAt (opsAt c m W K V t) j = opOf W K V (p + j)) := fun j hj => by rw [opsAt_at c m W K V t j (by rw [HP.out]; exact hj), HP.out]
    have HOL : Hid ((opsAt c m W K V t).length = min (c t) (m - p)) := by show _ = _; rw [opsAt_len, HP.out]
    by_cases hlt : t < n
    · obtain ⟨b0, o0, e0, g0⟩ := R0.out t hlt
      subst e0
      have g0' : wr.cell? ⟨b0, o0 + t, none⟩ = some (.int .u8 (c t)) := cell_keep hat.below (by omega) g0
      clear g0
      have hct := hc t
      obtain ⟨cnt, hcnt⟩ : ∃ cnt, cnt = min (c t) (m - p) := ⟨_, rfl⟩
      rw [← hcnt] at HO HOL
      have hcnt1 : cnt ≤ 255 := by omega
      have hcnt2 : p + cnt ≤ m := by omega
      have hmk2 := run_make_wide (P := Try.prog) 38 43 (.agg #[.int .i8 0, .string ⟨#[]⟩, .int .i64 0]) 3 32 Try.underlying38 Try.info43 .i64 .i64 cnt (by omega) (by omega)
      obtain ⟨bo, hbo⟩ : ∃ bo, wr.heap.size = bo := ⟨_, rfl⟩
      have hBbo : B < bo := by rw [← hbo]; exact hat.row.lt
      have hbk : ∀ i, i < t → bk i < bo := fun i hi => by rw [← hbo]; exact (hat.ops i hi).lt
      have HBK : Hid (∀ i, i < t → bk i < bo) := hbk
      have HCN : Hid (cnt = min (c t) (m - p)) := hcnt
      clear hbk
      have hcase : (c t = cnt ∧ c t ≤ m - p) ∨ ((m : Int) - (p : Int) = (cnt : Int) ∧ m - p < c t) := by omega
      clear hcnt
      have S0 : AtB w B n (opsAt c m W K V) t bk (wr.alloc (.cells (madeCells #[.int .i8 0, .string ⟨#[]⟩, .int .i64 0] (cnt * 3)) 43)) := hat.alloc _
      have S1 : (wr.alloc (.cells (madeCells #[.int .i8 0, .string ⟨#[]⟩, .int .i64 0] (cnt * 3)) 43)).rowIs bo 43 (cnt * 3) (wide 3 (fillOps (fun j => opOf W K V (p + j)) 0)) :=
        (rowIs_made_wide wr _ (fun f => opCell ⟨false, ⟨#[]⟩, 0⟩ f) cnt 3 43 bo hbo rfl (by omega) (by
          intro j hj
          match j, hj with
          | 0, _ => rfl
          | 1, _ => rfl
          | 2, _ => rfl)).congr fun x _ => by simp [wide, fillOps]
      rcases hcase with ⟨x1, x2⟩ | ⟨x1, x2⟩
      focus
        rw [x1] at g0'
        have d1 : decide ((m : Int) - (p : Int) < (cnt : Int)) = false := decide_eq_false (by omega)
        clear x1
        go_wp2
      rotate_left
      focus
        have d1 : decide ((cnt : Int) < (c t : Int)) = true := decide_eq_true (by omega)
        go_wp2
        clear x1
      all_goals
        clear hat g0'
        generalize (wr.alloc (.cells (madeCells #[.int .i8 0, .string ⟨#[]⟩, .int .i64 0] (cnt * 3)) 43)) = W0 at S0 S1 ⊢
        go_loopg [15, 16] cnt (fun q j k wr => ∃ jj : Nat, jj ≤ cnt ∧ q = cnt - jj ∧ j = .int .i64 jj ∧ AtB w B n (opsAt c m W K V) t bk wr ∧ wr.rowIs bo 43 (cnt * 3) (wide 3 (fillOps (fun j => opOf W K V (p + j)) jj)))
        case atStart => exact ⟨0, Nat.zero_le _, rfl, rfl, S0, S1⟩
        case round =>
          clear S0 S1
          obtain ⟨j, hj, rfl, rfl, S0, S1⟩ := hrel
          by_cases hlj : j < cnt
          · obtain ⟨u1, v1, e1, g1⟩ := R1.out (p + j) (by omega)
            obtain ⟨u2, v2, e2, g2⟩ := R2.out (p + j) (by omega)
            obtain ⟨u3, v3, e3, g3⟩ := R3.out (p + j) (by omega)
            subst e1 e2 e3
            have g1' : wr.cell? ⟨u1, v1 + (p + j), none⟩ = some (.bool (W (p + j))) := cell_keep S0.below (by omega) g1
            have g2' : wr.cell? ⟨u2, v2 + (p + j), none⟩ = some (.string (K (p + j))) := cell_keep S0.below (by omega) g2
            have g3' : wr.cell? ⟨u3, v3 + (p + j), none⟩ = some (.int .i64 (V (p + j))) := cell_keep S0.below (by omega) g3
            clear g1 g2 g3
            have y0 : wr.cell? ⟨bo, j * 3, none⟩ = some _ := rowIs_cellAt S1 hlj (show 0 < 3 by omega)
            have y1 := rowIs_cellAt S1 hlj (show 1 < 3 by omega)
            have y2 := rowIs_cellAt S1 hlj (show 2 < 3 by omega)
            have z0 := S1.frozen (j * 3)
            have z1 := S1.frozen (j * 3 + 1)
            have z2 := S1.frozen (j * 3 + 2)
            have i1 : (0 : Int) ≤ (p : Int) + (j : Int) := by omega
            have i2 : (p : Int) + (j : Int) < (l2 : Int) := by omega
            have i3 : (p : Int) + (j : Int) < (l3 : Int) := by omega
            have i4 : (0 : Int) ≤ (j : Int) := by omega
            have i5 : (j : Int) < (cnt : Int) := by omega
            have S2 := fill_op S1
            have S3 : AtB w B n (opsAt c m W K V) t bk (((wr.setCell ⟨bo, j * 3, none⟩ (.int .i8 (kindOf (opOf W K V (p + j)).wr))).setCell ⟨bo, j * 3 + 1, none⟩ (.string (opOf W K V (p + j)).key)).setCell ⟨bo, j * 3 + 2, none⟩ (.int .i64 (opOf W K V (p + j)).ver)) :=
              ((S0.setOther _ hBbo (fun i hi => by have := HBK.out i hi; show bk i ≠ bo; omega)).setOther _ hBbo (fun i hi => by have := HBK.out i hi; show bk i ≠ bo; omega)).setOther _ hBbo (fun i hi => by have := HBK.out i hi; show bk i ≠ bo; omega)
            simp only [opOf] at S2 S3
            cases hW : W (p + j)
            all_goals
              rw [hW] at g1' S2 S3
              clear hW
              go_wp2
              go_region
              go_wp2
              go_roundg (cnt - (j + 1))
              case measure => omega
              case rel => exact ⟨j + 1, by omega, rfl, by go_num, S3.drew, S2⟩
          · have hjc : cnt = j := by omega
            subst hjc
            have y5 : wr.cell? ⟨B, t * 6 + 5, none⟩ = some _ := rowIs_cellAt S0.row hlt (show 5 < 6 by omega)
            have z5 := S0.row.frozen (t * 6 + 5)
            have S4 : wr.rowIs bo 43 ((opsAt c m W K V t).length * 3) (wide 3 (fun j f => opCell (opAt (opsAt c m W K V t) j) f)) := by
              rw [HOL.out]
              refine S1.congr fun x hx => ?_
              have hx3 : x / 3 < cnt := Nat.div_lt_of_lt_mul (by omega)
              unfold wide fillOps
              rw [if_pos hx3]
              show opCell (opOf W K V (p + x / 3)) (x % 3) = opCell (opAt (opsAt c m W K V t) (x / 3)) (x % 3)
              rw [HO.out _ hx3]
            have S5 := S0.next S4 hBbo
            rw [HOL.out] at S5
            go_wp2
            go_roundg (n - (t + 1))
            case measure => omega
            case rel =>
              refine ⟨t + 1, by omega, rfl, by go_num, ?_, _, S5⟩
              have e : posTo c m (t + 1) = p + cnt := by
                simp only [posTo]
                rw [HP.out, ← HCN.out]
              rw [e]
              go_num
    · have : n = t := by omega
      subst this
      go_wp2
      go_ret
      refine ⟨by rw [hB]; rfl, ?_, ?_⟩
      · rw [hB]; exact ⟨bk, hat.row, hat.ops⟩
      · rw [hB]; exact hat.below

end Go.Proofs.Qxb6600569a
