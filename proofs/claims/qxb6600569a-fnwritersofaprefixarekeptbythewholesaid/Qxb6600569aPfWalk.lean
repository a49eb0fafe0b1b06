/-
  'FnWritersOfAPrefixAreKeptByTheWhole' walked.
-/
import Derived.Test.Qxb6600569aWrWalk
namespace Go.Proofs.Qxb6600569a
open Go.RowKit
set_option linter.unusedVariables false

set_option maxHeartbeats 2000000 in
set_option maxRecDepth 100000 in
theorem pf_main (a0 a1 a2 a3 : Option Addr) (n l1 l2 l3 c0 c1 c2 c3 cut : Nat) (c : Nat → Nat) (W : Nat → Bool) (K : Nat → ByteArray) (V : Nat → Int) (w : World) (h0 : n ≤ 65536) (h1 : l1 ≤ 65536) (h2 : l2 ≤ 65536) (h3 : l3 ≤ 65536) (hcut : cut ≤ n)
    (hF : Four w a0 a1 a2 a3 n l1 l2 l3 c0 c1 c2 c3 c W K V) :
    Calls Try.prog 4 #[.slice a0 n c0, .slice a1 l1 c1, .slice a2 l2 c2, .slice a3 l3 c3, .int .i64 cut] w (TrueP w) := by
  have d0 : decide ((65536 : Int) < (n : Int)) = false := decide_eq_false (by omega)
  have d1 : decide ((65536 : Int) < (l1 : Int)) = false := decide_eq_false (by omega)
  have d2 : decide ((65536 : Int) < (l2 : Int)) = false := decide_eq_false (by omega)
  have dc1 : decide ((cut : Int) < 0) = false := decide_eq_false (by omega)
  have dc2 : decide ((n : Int) < (cut : Int)) = false := decide_eq_false (by omega)
  have dc3 : decide (n < cut) = false := decide_eq_false (by omega)
  have d3 : decide ((65536 : Int) < (l3 : Int)) = false := decide_eq_false (by omega)
  go_enter Try.func4, Try.ntmps4
  go_wp2_with fail
  refine (bytes_four18 a0 a1 a2 a3 n l1 l2 l3 c0 c1 c2 c3 cut K w (by unfold maxLen; omega) (by unfold maxLen; omega) (by unfold maxLen; omega) (by unfold maxLen; omega) hF.r2).mono ?_
  rintro e w' ⟨⟨bb, rfl⟩, rfl⟩
  cases bb
  · go_wp2
    go_ret
    exact ⟨rfl, Below.refl _ _⟩
  go_wp2_with fail
  refine (txnBytes_any a0 a1 a2 a3 n l1 l2 l3 c0 c1 c2 c3 K w h0 h1 h2 h3 hF.r2).mono ?_
  rintro e w' ⟨⟨tb, rfl⟩, rfl⟩
  by_cases htb : 1048576 < tb
  · have dt : decide ((1048576 : Int) < tb) = true := decide_eq_true htb
    go_wp2
    go_ret
    exact ⟨rfl, Below.refl _ _⟩
  have dt : decide ((1048576 : Int) < tb) = false := decide_eq_false htb
  go_wp2_with fail
  refine (copyU8 a0 n c0 (fun j => (c j : Int)) w h0 hF.n0 hF.r0).mono ?_
  rintro e w1 ⟨⟨p0, q0, rfl, k0⟩, g1⟩
  go_wp2_with fail
  refine (copyBool a1 l1 c1 W w1 h1 hF.n1 (hF.r1.keep g1 (Nat.le_refl _))).mono ?_
  rintro e w2 ⟨⟨p1, q1, rfl, k1⟩, g2⟩
  go_wp2_with fail
  refine (copyStr a2 l2 c2 K w2 h2 hF.n2 ((hF.r2.keep g1 (Nat.le_refl _)).keep g2 (Nat.le_refl _))).mono ?_
  rintro e w3 ⟨⟨p2, q2, rfl, k2⟩, g3⟩
  go_wp2_with fail
  refine (copyI64 a3 l3 c3 V w3 h3 hF.n3 (((hF.r3.keep g1 (Nat.le_refl _)).keep g2 (Nat.le_refl _)).keep g3 (Nat.le_refl _))).mono ?_
  rintro e w4 ⟨⟨p3, q3, rfl, k3⟩, g4⟩
  have K0 := ((k0.keep g2 (Nat.le_refl _)).keep g3 (Nat.le_refl _)).keep g4 (Nat.le_refl _)
  have K1 := (k1.keep g3 (Nat.le_refl _)).keep g4 (Nat.le_refl _)
  have K2 := k2.keep g4 (Nat.le_refl _)
  have z1 := g1.size
  have z2 := g2.size
  have z3 := g3.size
  have z4 := g4.size
  have B4 : Below w.heap.size w w4 := ((g1.trans (g2.mono z1)).trans (g3.mono (by omega))).trans (g4.mono (by omega))
  clear z1 z2 z3 z4 g1 g2 g3 g4 k0 k1 k2
  have hcc := hF.hc
  clear hF
  have KK : Hid (Rd w4 p0 n (fun j => .int .u8 (c j)) ∧ Rd w4 p1 l1 (fun j => .bool (W j)) ∧ Rd w4 p2 l2 (fun j => .string (K j)) ∧ Rd w4 p3 l3 (fun j => .int .i64 (V j))) := ⟨K0, K1, K2, k3⟩
  clear K0 K1 K2 k3
  go_wp2_with fail
  refine (build_any p0 p1 p2 p3 n l1 l2 l3 q0 q1 q2 q3 _ w4.heap.size c W K V w4 rfl h0 h1 h2 h3 rfl KK.out.1 KK.out.2.1 KK.out.2.2.1 KK.out.2.2.2 hcc).mono ?_
  rintro e w5 ⟨rfl, T5, g5⟩
  have hO := opsAt_le c (min l1 (min l2 l3)) W K V hcc
  generalize opsAt c (min l1 (min l2 l3)) W K V = O at T5 hO
  clear KK hcc
  have B5 : Below w.heap.size w w5 := B4.trans (g5.mono B4.size)
  obtain ⟨B, hB⟩ : ∃ B, w4.heap.size = B := ⟨_, rfl⟩
  rw [hB] at T5 ⊢
  clear hB g5 B4
  go_wp2_with fail
  refine (zzwriters_any B n cut n O w5 hcut h0 T5 hO).mono ?_
  rintro e w6 ⟨⟨bp, rfl, hmp, hbp⟩, g6⟩
  have T6 := T5.keep g6 (Nat.le_refl _)
  have B6 : Below w.heap.size w w6 := B5.trans (g6.mono B5.size)
  clear T5 g6 B5 hbp
  go_wp2_with fail
  refine (zzwriters_any B n n n O w6 (Nat.le_refl _) h0 T6 hO).mono ?_
  rintro e w7 ⟨⟨bm, rfl, hmap, hbm⟩, g7⟩
  have T7 := T6.keep g7 (Nat.le_refl _)
  have B7 : Below w.heap.size w w7 := B6.trans (g7.mono B6.size)
  have hmp7 := hmp.of_block (g7.block bp hmp.lt)
  clear T6 g7 B6 hbm hmp
  obtain ⟨bk, hcell⟩ := T7.txn
  have HC : Hid (∀ i, i < n → _) := hcell
  clear hcell T7
  obtain ⟨M, hM⟩ : ∃ M, w7.heap.size = M := ⟨_, rfl⟩
  have hbmM : bm < M := by rw [← hM]; exact hmap.lt
  have hbpM : bp < M := by rw [← hM]; exact hmp7.lt
  have HM : Hid (w7.heap.size = M) := hM
  clear hM
  have hlen1 := run_len_kv hmp7 3
  have hlen2 := run_len_kv hmap 3
  have hll := (prefix_look O cut n hcut (⟨#[]⟩, 0)).2.2
  have dl : decide (((wto O n).length : Int) < ((wto O cut).length : Int)) = false := decide_eq_false (by omega)
  have dl' : decide ((wto O n).length < (wto O cut).length) = false := decide_eq_false (by omega)
  go_wp2
  clear hlen1 hlen2
  go_loopg [14] n (fun q i wr => ∃ t : Nat, t ≤ n ∧ q = n - t ∧ i = .int .i64 t ∧ Below M w7 wr)
  case atStart => exact ⟨0, Nat.zero_le _, rfl, rfl, Below.refl _ _⟩
  case round =>
    obtain ⟨t, ht, rfl, rfl, hbel⟩ := hrel
    have hMs := HM.out
    by_cases hlt : t < n
    · obtain ⟨⟨-, -, -, -, -, k5⟩, hops⟩ := HC.out t hlt
      have k5 := cell_keep hbel (by omega) k5
      have HOP : Hid (∀ j (hj : j < (O t).length), w7.cell? ⟨bk t, j * 3, none⟩ = some (.int .i8 (kindOf (O t)[j].wr)) ∧ w7.cell? ⟨bk t, j * 3 + 1, none⟩ = some (.string (O t)[j].key) ∧ w7.cell? ⟨bk t, j * 3 + 2, none⟩ = some (.int .i64 (O t)[j].ver)) := hops
      clear hops
      have hol := hO t
      go_wp2
      go_loopg [16] (O t).length (fun q j wr => ∃ jj : Nat, jj ≤ (O t).length ∧ q = (O t).length - jj ∧ j = .int .i64 jj ∧ Below M w7 wr)
      case atStart => exact ⟨0, Nat.zero_le _, rfl, rfl, hbel⟩
      case round =>
        clear hbel k5
        obtain ⟨j, hj, rfl, rfl, hbel⟩ := hrel
        have hsz := hbel.size
        by_cases hlj : j < (O t).length
        · obtain ⟨y0, y1, y2⟩ := HOP.out j hlj
          have y0 := cell_keep hbel (by omega) y0
          have y1 := cell_keep hbel (by omega) y1
          have y2 := cell_keep hbel (by omega) y2
          have hh1 := fun hw => prefix_has O n t j hlt hlj hw
          have hh2 := fun hc hw => prefix_has O cut t j hc hlj hw
          obtain ⟨o, ho⟩ : ∃ o, o = (O t)[j] := ⟨_, rfl⟩
          rw [← ho] at y0 y1 y2
          have HH1 : Hid (o.wr = true → ∃ r, look o.kv (wto O n) = some r) := fun hw => by rw [ho]; exact hh1 (by rw [← ho]; exact hw)
          have HH2 : Hid (t < cut → o.wr = true → ∃ r, look o.kv (wto O cut) = some r) := fun hc hw => by rw [ho]; exact hh2 hc (by rw [← ho]; exact hw)
          clear ho hh1 hh2
          obtain ⟨ow, key, ver⟩ := o
          simp only [] at y0 y1 y2
          cases ow
          · simp only [kindOf, Bool.false_eq_true, if_false] at y0
            go_wp2
            go_roundg ((O t).length - (j + 1))
            case measure => omega
            case rel => exact ⟨j + 1, by omega, rfl, by go_num, hbel.alloc (by omega) _⟩
          simp only [kindOf, if_true] at y0
          have hpl := prefix_look O cut n hcut (key, ver)
          cases hlp : look (key, ver) (wto O cut) with
          | some ab =>
            obtain ⟨a, b⟩ := ab
            have hlf := hpl.1 _ hlp
            have HW1 : Hid (∀ W0, MapIs W0 bp (wto O cut) → Calls Try.prog 17 #[.map (some bp), .string key, .int .i64 ver] W0 (WriterOfPost W0 (some (a, b)))) := fun W0 hW0 => by
              have := writerOf_any bp (wto O cut) key ver W0 hW0
              rw [hlp] at this; exact this
            have HW2 : Hid (∀ W0, MapIs W0 bm (wto O n) → Calls Try.prog 17 #[.map (some bm), .string key, .int .i64 ver] W0 (WriterOfPost W0 (some (a, b)))) := fun W0 hW0 => by
              have := writerOf_any bm (wto O n) key ver W0 hW0
              rw [hlf] at this; exact this
            clear hpl hlp hlf HH1 HH2
            have j1 : ((a : Int) != (a : Int)) = false := by simp
            have j2 : ((b : Int) != (b : Int)) = false := by simp
            by_cases htc : t < cut
            · have j3 : decide ((t : Int) < (cut : Int)) = true := decide_eq_true (by omega)
              go_wp2_with fail
              refine (HW1.out _ ((hmp7.of_block (hbel.block bp hbpM)).alloc _)).mono ?_
              rintro e w8 ⟨rfl, g8⟩
              have b1 := g8.cell (p := ⟨wr.heap.size, 1, none⟩) (by simp)
              have b2 := g8.cell (p := ⟨wr.heap.size, 2, none⟩) (by simp)
              simp at b1 b2
              have hb8 : Below M w7 w8 := (hbel.alloc (by omega) _).trans (g8.mono (by simp; omega))
              clear g8 y0 y1 y2
              go_wp2_with fail
              refine (HW2.out _ (hmap.of_block (hb8.block bm hbmM))).mono ?_
              rintro e w9 ⟨rfl, g9⟩
              have hb9 : Below M w7 w9 := hb8.trans (g9.mono (by have := hb8.size; omega))
              clear g9 b1 b2
              go_wp2
              go_roundg ((O t).length - (j + 1))
              case measure => omega
              case rel => exact ⟨j + 1, by omega, rfl, by go_num, hb9⟩
            · have j3 : decide ((t : Int) < (cut : Int)) = false := decide_eq_false (by omega)
              go_wp2_with fail
              refine (HW1.out _ ((hmp7.of_block (hbel.block bp hbpM)).alloc _)).mono ?_
              rintro e w8 ⟨rfl, g8⟩
              have b1 := g8.cell (p := ⟨wr.heap.size, 1, none⟩) (by simp)
              have b2 := g8.cell (p := ⟨wr.heap.size, 2, none⟩) (by simp)
              simp at b1 b2
              have hb8 : Below M w7 w8 := (hbel.alloc (by omega) _).trans (g8.mono (by simp; omega))
              clear g8 y0 y1 y2
              go_wp2_with fail
              refine (HW2.out _ (hmap.of_block (hb8.block bm hbmM))).mono ?_
              rintro e w9 ⟨rfl, g9⟩
              have hb9 : Below M w7 w9 := hb8.trans (g9.mono (by have := hb8.size; omega))
              clear g9 b1 b2
              go_wp2
              go_roundg ((O t).length - (j + 1))
              case measure => omega
              case rel => exact ⟨j + 1, by omega, rfl, by go_num, hb9⟩
          | none =>
            obtain ⟨⟨a, b⟩, hlf⟩ : ∃ r, look (key, ver) (wto O n) = some r := HH1.out rfl
            have hca := hpl.2.1 hlp a b hlf
            have htc : cut ≤ t := by
              rcases Nat.lt_or_ge t cut with h | h
              · obtain ⟨r, hr⟩ : ∃ r, look (key, ver) (wto O cut) = some r := HH2.out h rfl
                rw [hlp] at hr; simp at hr
              · exact h
            have HW1 : Hid (∀ W0, MapIs W0 bp (wto O cut) → Calls Try.prog 17 #[.map (some bp), .string key, .int .i64 ver] W0 (WriterOfPost W0 none)) := fun W0 hW0 => by
              have := writerOf_any bp (wto O cut) key ver W0 hW0
              rw [hlp] at this; exact this
            have HW2 : Hid (∀ W0, MapIs W0 bm (wto O n) → Calls Try.prog 17 #[.map (some bm), .string key, .int .i64 ver] W0 (WriterOfPost W0 (some (a, b)))) := fun W0 hW0 => by
              have := writerOf_any bm (wto O n) key ver W0 hW0
              rw [hlf] at this; exact this
            clear hpl hlp hlf HH1 HH2
            have j3 : decide ((t : Int) < (cut : Int)) = false := decide_eq_false (by omega)
            have j4 : decide ((a : Int) < (cut : Int)) = false := decide_eq_false (by omega)
            go_wp2_with fail
            refine (HW1.out _ ((hmp7.of_block (hbel.block bp hbpM)).alloc _)).mono ?_
            rintro e w8 ⟨rfl, g8⟩
            have b1 := g8.cell (p := ⟨wr.heap.size, 1, none⟩) (by simp)
            have b2 := g8.cell (p := ⟨wr.heap.size, 2, none⟩) (by simp)
            simp at b1 b2
            have hb8 : Below M w7 w8 := (hbel.alloc (by omega) _).trans (g8.mono (by simp; omega))
            clear g8 y0 y1 y2
            go_wp2_with fail
            refine (HW2.out _ (hmap.of_block (hb8.block bm hbmM))).mono ?_
            rintro e w9 ⟨rfl, g9⟩
            have hb9 : Below M w7 w9 := hb8.trans (g9.mono (by have := hb8.size; omega))
            clear g9 b1 b2
            go_wp2
            go_roundg ((O t).length - (j + 1))
            case measure => omega
            case rel => exact ⟨j + 1, by omega, rfl, by go_num, hb9⟩
        · go_wp2
          go_roundg (n - (t + 1))
          case measure => omega
          case rel => exact ⟨t + 1, by omega, rfl, by go_num, hbel⟩
    · go_wp2
      go_ret
      exact ⟨rfl, B7.trans (hbel.mono (by have := B7.size; omega))⟩

end Go.Proofs.Qxb6600569a
