/-
  'FnWritersMapsEachVersionToItsFirstWrite' walked.
-/
import Derived.Test.Qxb6600569aWriters
namespace Go.Proofs.Qxb6600569a
open Go.RowKit
open Tj (upd upd_same upd_other)
set_option linter.unusedVariables false

structure TrueP (w : World) (e : Ending) (w' : World) : Prop where
  ret : e = .returned (.bool true)
  below : Below w.heap.size w w'

theorem wpList_len_kv (w : World) {ops : Array Oper} {rest : List Oper} {o : Oper} {a : Act} {Q : Exit → Act → World → Prop}
    (hg : o.guard = none) (m : Operand) (hop : o.op = Op.call { callee := .builtin .len, args := #[m], argTypes := #[34] }) (b : Nat) (L : List ((ByteArray × Int) × (Nat × Nat))) (hm : a.eval m = .map (some b)) (h : MapIs w b L)
    (hK : wpList Try.prog ops Q rest (a.put o.dst (.int .i64 L.length)) w) : wpList Try.prog ops Q (o :: rest) a w := by
  refine wpList_plain hg fun K' hK' => ?_
  have hrun := run_len_kv h o.type
  unfold Oper.wp execOp
  simp only [hop, resolve, invoke, builtin, Sem.run_bind, Sem.run_pure, Result.andThen_ok, List.map_toArray, List.map_cons, List.map_nil, hm, hrun]
  exact hK' _ _ hK

/-- What the reading of the four slices is good for, in whatever later world. -/
structure Four (w : World) (a0 a1 a2 a3 : Option Addr) (l0 l1 l2 l3 c0 c1 c2 c3 : Nat) (c : Nat → Nat) (W : Nat → Bool) (K : Nat → ByteArray) (V : Nat → Int) : Prop where
  r0 : Rd w a0 l0 (fun j => .int .u8 (c j))
  r1 : Rd w a1 l1 (fun j => .bool (W j))
  r2 : Rd w a2 l2 (fun j => .string (K j))
  r3 : Rd w a3 l3 (fun j => .int .i64 (V j))
  n0 : a0 = none → l0 = 0 ∧ c0 = 0
  n1 : a1 = none → l1 = 0 ∧ c1 = 0
  n2 : a2 = none → l2 = 0 ∧ c2 = 0
  n3 : a3 = none → l3 = 0 ∧ c3 = 0
  hc : ∀ j, c j ≤ 255

theorem opsAt_le (c : Nat → Nat) (m : Nat) (W : Nat → Bool) (K : Nat → ByteArray) (V : Nat → Int) (hc : ∀ j, c j ≤ 255) (t : Nat) : (opsAt c m W K V t).length ≤ 65536 := by
  rw [opsAt_len]; have := hc t; omega

theorem cell_over {w : World} {a : Addr} {v : Value} (h : w.cell? a = some v) (o : Obj) : (w.alloc o).cell? a = some v :=
  cell_keep ((Below.refl w.heap.size w).alloc (Nat.le_refl _) o) (Nat.le_refl _) h

theorem start_len {O : Nat → List OpT} {t : Nat} (h : (wto O t).length ≤ t * 65536) : (wat O t 0).length ≤ t * 65536 + 0 := by rw [Nat.add_zero]; exact h

set_option maxHeartbeats 2000000 in
set_option maxRecDepth 100000 in
theorem wr_main (a0 a1 a2 a3 : Option Addr) (n l1 l2 l3 c0 c1 c2 c3 : Nat) (c : Nat → Nat) (W : Nat → Bool) (K : Nat → ByteArray) (V : Nat → Int) (w : World) (h0 : n ≤ 65536) (h1 : l1 ≤ 65536) (h2 : l2 ≤ 65536) (h3 : l3 ≤ 65536)
    (hF : Four w a0 a1 a2 a3 n l1 l2 l3 c0 c1 c2 c3 c W K V) :
    Calls Try.prog 3 #[.slice a0 n c0, .slice a1 l1 c1, .slice a2 l2 c2, .slice a3 l3 c3] w (TrueP w) := by
  have d0 : decide ((65536 : Int) < (n : Int)) = false := decide_eq_false (by omega)
  have d1 : decide ((65536 : Int) < (l1 : Int)) = false := decide_eq_false (by omega)
  have d2 : decide ((65536 : Int) < (l2 : Int)) = false := decide_eq_false (by omega)
  have d3 : decide ((65536 : Int) < (l3 : Int)) = false := decide_eq_false (by omega)
  go_enter Try.func3, Try.ntmps3
  go_wp2_with fail
  refine (bytes_four9 a0 a1 a2 a3 n l1 l2 l3 c0 c1 c2 c3 K w (by unfold maxLen; omega) (by unfold maxLen; omega) (by unfold maxLen; omega) (by unfold maxLen; omega) hF.r2).mono ?_
  rintro e w' ⟨⟨bb, rfl⟩, rfl⟩
  cases bb
  · go_wp2
    go_ret
    exact ⟨rfl, Below.refl _ _⟩
  go_wp2_with fail
  refine (txnBytes_any a0 a1 a2 a3 n l1 l2 l3 c0 c1 c2 c3 K w h0 h1 h2 h3 hF.r2).mono ?_
  rintro e w' ⟨⟨tb, rfl⟩, rfl⟩
  by_cases htb : 1048576 < tb
  · have dt : decide ((1048576 : Int) < tb) = true := decide_eq_true htb
    go_wp2
    go_ret
    exact ⟨rfl, Below.refl _ _⟩
  have dt : decide ((1048576 : Int) < tb) = false := decide_eq_false htb
  go_wp2_with fail
  refine (copyU8 a0 n c0 (fun j => (c j : Int)) w h0 hF.n0 hF.r0).mono ?_
  rintro e w1 ⟨⟨p0, q0, rfl, k0⟩, g1⟩
  go_wp2_with fail
  refine (copyBool a1 l1 c1 W w1 h1 hF.n1 (hF.r1.keep g1 (Nat.le_refl _))).mono ?_
  rintro e w2 ⟨⟨p1, q1, rfl, k1⟩, g2⟩
  go_wp2_with fail
  refine (copyStr a2 l2 c2 K w2 h2 hF.n2 ((hF.r2.keep g1 (Nat.le_refl _)).keep g2 (Nat.le_refl _))).mono ?_
  rintro e w3 ⟨⟨p2, q2, rfl, k2⟩, g3⟩
  go_wp2_with fail
  refine (copyI64 a3 l3 c3 V w3 h3 hF.n3 (((hF.r3.keep g1 (Nat.le_refl _)).keep g2 (Nat.le_refl _)).keep g3 (Nat.le_refl _))).mono ?_
  rintro e w4 ⟨⟨p3, q3, rfl, k3⟩, g4⟩
  have K0 := ((k0.keep g2 (Nat.le_refl _)).keep g3 (Nat.le_refl _)).keep g4 (Nat.le_refl _)
  have K1 := (k1.keep g3 (Nat.le_refl _)).keep g4 (Nat.le_refl _)
  have K2 := k2.keep g4 (Nat.le_refl _)
  have z1 := g1.size
  have z2 := g2.size
  have z3 := g3.size
  have z4 := g4.size
  have B4 : Below w.heap.size w w4 := ((g1.trans (g2.mono z1)).trans (g3.mono (by omega))).trans (g4.mono (by omega))
  clear z1 z2 z3 z4 g1 g2 g3 g4 k0 k1 k2
  have hcc := hF.hc
  clear hF
  have KK : Hid (Rd w4 p0 n (fun j => .int .u8 (c j)) ∧ Rd w4 p1 l1 (fun j => .bool (W j)) ∧ Rd w4 p2 l2 (fun j => .string (K j)) ∧ Rd w4 p3 l3 (fun j => .int .i64 (V j))) := ⟨K0, K1, K2, k3⟩
  clear K0 K1 K2 k3
  go_wp2_with fail
  refine (build_any p0 p1 p2 p3 n l1 l2 l3 q0 q1 q2 q3 _ w4.heap.size c W K V w4 rfl h0 h1 h2 h3 rfl KK.out.1 KK.out.2.1 KK.out.2.2.1 KK.out.2.2.2 hcc).mono ?_
  rintro e w5 ⟨rfl, T5, g5⟩
  have hO := opsAt_le c (min l1 (min l2 l3)) W K V hcc
  generalize opsAt c (min l1 (min l2 l3)) W K V = O at T5 hO
  clear KK hcc
  have B5 : Below w.heap.size w w5 := B4.trans (g5.mono B4.size)
  obtain ⟨B, hB⟩ : ∃ B, w4.heap.size = B := ⟨_, rfl⟩
  rw [hB] at T5 ⊢
  clear hB g5 B4
  go_wp2_with fail
  refine (zzwriters_any B n n n O w5 (Nat.le_refl _) h0 T5 hO).mono ?_
  rintro e w6 ⟨⟨bm, rfl, hmap, hbm⟩, g6⟩
  have T6 := T5.keep g6 (Nat.le_refl _)
  have B6 : Below w.heap.size w w6 := B5.trans (g6.mono B5.size)
  clear T5 g6 B5 hbm
  obtain ⟨bk, hcell⟩ := T6.txn
  have HC : Hid (∀ i, i < n → _) := hcell
  clear hcell T6
  obtain ⟨M, hM⟩ : ∃ M, w6.heap.size = M := ⟨_, rfl⟩
  have hbmM : bm < M := by rw [← hM]; exact hmap.lt
  have HM : Hid (w6.heap.size = M) := hM
  clear hM
  go_wp2
  go_loopg [12, 11] n (fun q i d wr => ∃ t : Nat, t ≤ n ∧ q = n - t ∧ i = .int .i64 t ∧ d = .int .i64 (wto O t).length ∧ (wto O t).length ≤ t * 65536 ∧ Below M w6 wr)
  case atStart => exact ⟨0, Nat.zero_le _, rfl, rfl, rfl, by simp [wto], Below.refl _ _⟩
  case round =>
    obtain ⟨t, ht, rfl, rfl, rfl, hdl, hbel⟩ := hrel
    have hMs := HM.out
    by_cases hlt : t < n
    · obtain ⟨⟨-, -, -, -, -, k5⟩, hops⟩ := HC.out t hlt
      have k5 := cell_keep hbel (by omega) k5
      have HOP : Hid (∀ j (hj : j < (O t).length), w6.cell? ⟨bk t, j * 3, none⟩ = some (.int .i8 (kindOf (O t)[j].wr)) ∧ w6.cell? ⟨bk t, j * 3 + 1, none⟩ = some (.string (O t)[j].key) ∧ w6.cell? ⟨bk t, j * 3 + 2, none⟩ = some (.int .i64 (O t)[j].ver)) := hops
      clear hops
      have hol := hO t
      go_wp2
      go_loopg [14, 11] (O t).length (fun q j d wr => ∃ jj : Nat, jj ≤ (O t).length ∧ q = (O t).length - jj ∧ j = .int .i64 jj ∧ d = .int .i64 (wat O t jj).length ∧ (wat O t jj).length ≤ t * 65536 + jj ∧ Below M w6 wr)
      case atStart => exact ⟨0, Nat.zero_le _, rfl, rfl, rfl, start_len hdl, hbel⟩
      case round =>
        clear hbel k5 hdl
        obtain ⟨j, hj, rfl, rfl, rfl, hdl, hbel⟩ := hrel
        have hsz := hbel.size
        by_cases hlj : j < (O t).length
        · obtain ⟨y0, y1, y2⟩ := HOP.out j hlj
          have y0 := cell_keep hbel (by omega) y0
          have y1 := cell_keep hbel (by omega) y1
          have y2 := cell_keep hbel (by omega) y2
          have hwh := whole_at O n t j hlt hlj
          obtain ⟨o, ho⟩ : ∃ o, o = (O t)[j] := ⟨_, rfl⟩
          rw [← ho] at y0 y1 y2 hwh
          have HOE : Hid (o = (O t)[j]) := ho
          clear ho
          obtain ⟨ow, key, ver⟩ := o
          simp only [OpT.kv] at y0 y1 y2 hwh
          cases hlk : look (key, ver) (wto O n) with
          | none =>
            have HWO : Hid (∀ W0, MapIs W0 bm (wto O n) → Calls Try.prog 17 #[.map (some bm), .string key, .int .i64 ver] W0 (WriterOfPost W0 none)) := fun W0 hW0 => by
              have := writerOf_any bm (wto O n) key ver W0 hW0
              rw [hlk] at this; exact this
            have hr : ow = false ∧ wat O t (j + 1) = wat O t j := by
              rcases hwh with h | h | h
              · rw [hlk] at h; simp at h
              · rw [hlk] at h; simp at h
              · exact h
            obtain ⟨hr1, hr2⟩ := hr
            subst hr1
            have HR2 : Hid (wat O t (j + 1) = wat O t j) := hr2
            clear hr2 hwh hlk
            simp only [kindOf, Bool.false_eq_true, if_false] at y0
            go_wp2_with fail
            refine (HWO.out _ ((hmap.of_block (hbel.block bm hbmM)).alloc _)).mono ?_
            rintro e w7 ⟨rfl, g7⟩
            have b0 := g7.cell (p := ⟨wr.heap.size, 0, none⟩) (by simp)
            simp at b0
            go_wp2
            go_roundg ((O t).length - (j + 1))
            case measure => omega
            case rel => exact ⟨j + 1, by omega, rfl, by go_num, by rw [HR2.out], by rw [HR2.out]; omega, (hbel.alloc (by omega) _).trans (g7.mono (by simp; omega))⟩
          | some ab =>
            obtain ⟨a, b⟩ := ab
            obtain ⟨han, hbl, hbw, hbk⟩ := whole_write O n hlk
            have HWO : Hid (∀ W0, MapIs W0 bm (wto O n) → Calls Try.prog 17 #[.map (some bm), .string key, .int .i64 ver] W0 (WriterOfPost W0 (some (a, b)))) := fun W0 hW0 => by
              have := writerOf_any bm (wto O n) key ver W0 hW0
              rw [hlk] at this; exact this
            obtain ⟨⟨-, -, -, -, -, x5⟩, hops2⟩ := HC.out a han
            obtain ⟨x0, x1, x2⟩ := hops2 b hbl
            have ek : (O a)[b].key = key := congrArg Prod.fst hbk
            have ev : (O a)[b].ver = ver := congrArg Prod.snd hbk
            rw [hbw] at x0
            rw [ek] at x1
            rw [ev] at x2
            simp only [kindOf, if_true] at x0
            clear ek ev hbk hbw hops2
            have x5' := cell_keep (hbel.alloc (w := wr) (by omega) (.cells #[.int .i8 (kindOf ow), .string key, .int .i64 ver] 43)) (by omega) x5
            have x0' := cell_keep (hbel.alloc (w := wr) (by omega) (.cells #[.int .i8 (kindOf ow), .string key, .int .i64 ver] 43)) (by omega) x0
            have x1' := cell_keep (hbel.alloc (w := wr) (by omega) (.cells #[.int .i8 (kindOf ow), .string key, .int .i64 ver] 43)) (by omega) x1
            have x2' := cell_keep (hbel.alloc (w := wr) (by omega) (.cells #[.int .i8 (kindOf ow), .string key, .int .i64 ver] 43)) (by omega) x2
            clear x0 x1 x2 x5
            have j1 : decide ((a : Int) < 0) = false := decide_eq_false (by omega)
            have j2 : decide ((n : Int) ≤ (a : Int)) = false := decide_eq_false (by omega)
            have j3 : decide ((b : Int) < 0) = false := decide_eq_false (by omega)
            have j4 : decide (((O a).length : Int) ≤ (b : Int)) = false := decide_eq_false (by omega)
            have hola := hO a
            have hcases : (ow = false ∧ wat O t (j + 1) = wat O t j) ∨ (ow = true ∧ a = t ∧ b = j ∧ (wat O t (j + 1)).length = (wat O t j).length + 1) ∨ (ow = true ∧ (a < t ∨ (a = t ∧ b < j)) ∧ wat O t (j + 1) = wat O t j) := by
              rcases hwh with h | h | h
              · have e := h.2.2.1
                rw [hlk] at e
                simp at e
                exact .inr (.inl ⟨h.1, e.1, e.2, h.2.2.2⟩)
              · obtain ⟨h1, ⟨a', b', h2, h3⟩, h4⟩ := h
                rw [hlk] at h2
                simp at h2
                obtain ⟨rfl, rfl⟩ := h2
                exact .inr (.inr ⟨h1, h3, h4⟩)
              · exact .inl h
            clear hwh hlk
            rcases hcases with ⟨c1, c2⟩ | ⟨c1, c2, c3, c4⟩ | ⟨c1, c2, c3⟩
            · subst c1
              have HR2 : Hid (wat O t (j + 1) = wat O t j) := c2
              clear c2
              simp only [kindOf, Bool.false_eq_true, if_false] at y0 x0' x1' x2' x5'
              go_wp2_with fail
              refine (HWO.out _ ((hmap.of_block (hbel.block bm hbmM)).alloc _)).mono ?_
              rintro e w7 ⟨rfl, g7⟩
              have b0 := g7.cell (p := ⟨wr.heap.size, 0, none⟩) (by simp)
              have b1 := g7.cell (p := ⟨wr.heap.size, 1, none⟩) (by simp)
              have b2 := g7.cell (p := ⟨wr.heap.size, 2, none⟩) (by simp)
              have z0 := cell_keep g7 (Nat.le_refl _) x0'
              have z1 := cell_keep g7 (Nat.le_refl _) x1'
              have z2 := cell_keep g7 (Nat.le_refl _) x2'
              have z5 := cell_keep g7 (Nat.le_refl _) x5'
              simp at b0 b1 b2
              have b0' := fun o => cell_over b0 o
              have b1' := fun o => cell_over b1 o
              have b2' := fun o => cell_over b2 o
              have hs7 : wr.heap.size + 1 ≤ w7.heap.size := by have := g7.size; simpa using this
              have hb7 : Below M w6 w7 := (hbel.alloc (by omega) _).trans (g7.mono (by simp; omega))
              clear x0' x1' x2' x5' g7 y0 y1 y2
              go_wp2
              go_roundg ((O t).length - (j + 1))
              case measure => omega
              case rel => exact ⟨j + 1, by omega, rfl, by go_num, by rw [HR2.out], by rw [HR2.out]; omega, hb7.alloc (by omega) _⟩
            · subst c1 c2 c3
              have HR2 : Hid ((wat O a (b + 1)).length = (wat O a b).length + 1) := c4
              clear c4
              have j5 : ((a : Int) == (a : Int)) = true := by simp
              have j6 : ((b : Int) == (b : Int)) = true := by simp
              have j7 : decide ((a : Int) < (a : Int)) = false := decide_eq_false (by omega)
              have j8 : decide ((b : Int) < (b : Int)) = false := decide_eq_false (by omega)
              have hdb : (wat O a b).length ≤ 4294967296 := by omega
              simp only [kindOf, if_true] at y0 x0' x1' x2' x5'
              go_wp2_with fail
              refine (HWO.out _ ((hmap.of_block (hbel.block bm hbmM)).alloc _)).mono ?_
              rintro e w7 ⟨rfl, g7⟩
              have b0 := g7.cell (p := ⟨wr.heap.size, 0, none⟩) (by simp)
              have b1 := g7.cell (p := ⟨wr.heap.size, 1, none⟩) (by simp)
              have b2 := g7.cell (p := ⟨wr.heap.size, 2, none⟩) (by simp)
              have z0 := cell_keep g7 (Nat.le_refl _) x0'
              have z1 := cell_keep g7 (Nat.le_refl _) x1'
              have z2 := cell_keep g7 (Nat.le_refl _) x2'
              have z5 := cell_keep g7 (Nat.le_refl _) x5'
              simp at b0 b1 b2
              have b0' := fun o => cell_over b0 o
              have b1' := fun o => cell_over b1 o
              have b2' := fun o => cell_over b2 o
              have hs7 : wr.heap.size + 1 ≤ w7.heap.size := by have := g7.size; simpa using this
              have hb7 : Below M w6 w7 := (hbel.alloc (by omega) _).trans (g7.mono (by simp; omega))
              clear x0' x1' x2' x5' g7 y0 y1 y2
              go_wp2
              go_roundg ((O a).length - (b + 1))
              case measure => omega
              case rel => exact ⟨b + 1, by omega, rfl, by go_num, by rw [HR2.out]; go_num, by rw [HR2.out]; omega, hb7.alloc (by omega) _⟩
            · subst c1
              have HR2 : Hid (wat O t (j + 1) = wat O t j) := c3
              clear c3
              rcases c2 with c2 | ⟨c2, c3⟩
              · have j5 : ((a : Int) == (t : Int)) = false := by simp; omega
                have j7 : decide ((t : Int) < (a : Int)) = false := decide_eq_false (by omega)
                simp only [kindOf, if_true] at y0 x0' x1' x2' x5'
                go_wp2_with fail
                refine (HWO.out _ ((hmap.of_block (hbel.block bm hbmM)).alloc _)).mono ?_
                rintro e w7 ⟨rfl, g7⟩
                have b0 := g7.cell (p := ⟨wr.heap.size, 0, none⟩) (by simp)
                have b1 := g7.cell (p := ⟨wr.heap.size, 1, none⟩) (by simp)
                have b2 := g7.cell (p := ⟨wr.heap.size, 2, none⟩) (by simp)
                have z0 := cell_keep g7 (Nat.le_refl _) x0'
                have z1 := cell_keep g7 (Nat.le_refl _) x1'
                have z2 := cell_keep g7 (Nat.le_refl _) x2'
                have z5 := cell_keep g7 (Nat.le_refl _) x5'
                simp at b0 b1 b2
                have b0' := fun o => cell_over b0 o
                have b1' := fun o => cell_over b1 o
                have b2' := fun o => cell_over b2 o
                have hs7 : wr.heap.size + 1 ≤ w7.heap.size := by have := g7.size; simpa using this
                have hb7 : Below M w6 w7 := (hbel.alloc (by omega) _).trans (g7.mono (by simp; omega))
                clear x0' x1' x2' x5' g7 y0 y1 y2
                go_wp2
                go_roundg ((O t).length - (j + 1))
                case measure => omega
                case rel => exact ⟨j + 1, by omega, rfl, by go_num, by rw [HR2.out], by rw [HR2.out]; omega, hb7.alloc (by omega) _⟩
              · subst c2
                have j5 : ((a : Int) == (a : Int)) = true := by simp
                have j6 : ((b : Int) == (j : Int)) = false := by simp; omega
                have j7 : decide ((a : Int) < (a : Int)) = false := decide_eq_false (by omega)
                have j8 : decide ((j : Int) < (b : Int)) = false := decide_eq_false (by omega)
                simp only [kindOf, if_true] at y0 x0' x1' x2' x5'
                go_wp2_with fail
                refine (HWO.out _ ((hmap.of_block (hbel.block bm hbmM)).alloc _)).mono ?_
                rintro e w7 ⟨rfl, g7⟩
                have b0 := g7.cell (p := ⟨wr.heap.size, 0, none⟩) (by simp)
                have b1 := g7.cell (p := ⟨wr.heap.size, 1, none⟩) (by simp)
                have b2 := g7.cell (p := ⟨wr.heap.size, 2, none⟩) (by simp)
                have z0 := cell_keep g7 (Nat.le_refl _) x0'
                have z1 := cell_keep g7 (Nat.le_refl _) x1'
                have z2 := cell_keep g7 (Nat.le_refl _) x2'
                have z5 := cell_keep g7 (Nat.le_refl _) x5'
                simp at b0 b1 b2
                have b0' := fun o => cell_over b0 o
                have b1' := fun o => cell_over b1 o
                have b2' := fun o => cell_over b2 o
                have hs7 : wr.heap.size + 1 ≤ w7.heap.size := by have := g7.size; simpa using this
                have hb7 : Below M w6 w7 := (hbel.alloc (by omega) _).trans (g7.mono (by simp; omega))
                clear x0' x1' x2' x5' g7 y0 y1 y2
                go_wp2
                go_roundg ((O a).length - (j + 1))
                case measure => omega
                case rel => exact ⟨j + 1, by omega, rfl, by go_num, by rw [HR2.out], by rw [HR2.out]; omega, hb7.alloc (by omega) _⟩
        · have hj' : j = (O t).length := by omega
          subst hj'
          go_wp2
          go_roundg (n - (t + 1))
          case measure => omega
          case rel => exact ⟨t + 1, by omega, rfl, by go_num, by rw [← wat_full], by rw [← wat_full]; omega, hbel⟩
    · have : n = t := by omega
      subst this
      have hlen := run_len_kv (hmap.of_block (hbel.block bm hbmM)) 3
      go_wp2
      go_ret
      exact ⟨ret_bool (by simp), B6.trans (hbel.mono (by have := B6.size; omega))⟩

end Go.Proofs.Qxb6600569a
