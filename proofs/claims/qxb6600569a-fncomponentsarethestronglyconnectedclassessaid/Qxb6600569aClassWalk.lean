/-
  'FnComponentsAreTheStronglyConnectedClasses' walked.
-/
import Derived.Test.Qxb6600569aClsWalk
namespace Go.Proofs.Qxb6600569a
open Go.RowKit
open Tj (upd upd_same upd_other)
set_option linter.unusedVariables false

/-- When v nodes' numbers have been marked, kk being one more than the greatest. -/
structure UsedAt (c : Nat → Nat) (v kk : Nat) (used : Nat → Bool) : Prop where
  lt : ∀ u, u < v → c u < kk
  top : kk = 0 ∨ ∃ u, u < v ∧ c u + 1 = kk
  mark : ∀ u, u < v → used (c u) = true

theorem UsedAt.start (c : Nat → Nat) : UsedAt c 0 0 (fun _ => false) := ⟨fun u hu => by omega, .inl rfl, fun u hu => by omega⟩

theorem UsedAt.step {c : Nat → Nat} {v kk : Nat} {used : Nat → Bool} (h : UsedAt c v kk used) : UsedAt c (v + 1) (max kk (c v + 1)) (upd used (c v) true) := by
  refine ⟨fun u hu => ?_, ?_, fun u hu => ?_⟩
  · by_cases e : u = v
    · subst e; omega
    · have := h.lt u (by omega); omega
  · by_cases e : kk ≤ c v + 1
    · exact .inr ⟨v, by omega, by omega⟩
    · rcases h.top with h1 | ⟨u, h1, h2⟩
      · omega
      · exact .inr ⟨u, by omega, by omega⟩
  · by_cases e : c u = c v
    · rw [e, upd_same]
    · rw [upd_other _ _ _ _ e]
      exact h.mark u (by
        have : u ≠ v := fun eu => e (by rw [eu])
        omega)

theorem UsedAt.done {n : Nat} {g : Nat → List Nat} {c : Nat → Nat} {k kk : Nat} {used : Nat → Bool} (h : UsedAt c n kk used) (hg : GoodN n g c k) : (∀ x, x < n → c x < kk) ∧ kk ≤ n ∧ ∀ j, j < kk → used j = true := by
  have hkk : kk ≤ k := by
    rcases h.top with h1 | ⟨u, h1, h2⟩
    · omega
    · have := hg.lt u h1; omega
  refine ⟨h.lt, Nat.le_trans hkk hg.le, fun j hj => ?_⟩
  obtain ⟨x, hx, e⟩ := hg.dense j (by omega)
  rw [← e]
  exact h.mark x hx

set_option maxHeartbeats 2000000 in
set_option maxRecDepth 100000 in
theorem cls_main (n : Nat) (a1 a2 : Option Addr) (l1 c1 l2 c2 : Nat) (f t : Nat → Nat) (w : World) (hn : n ≤ 65536) (h1 : l1 ≤ 65536) (h2 : l2 ≤ 65536) (ha1 : a1 = none → l1 = 0 ∧ c1 = 0) (ha2 : a2 = none → l2 = 0 ∧ c2 = 0)
    (r1 : Rd w a1 l1 (fun j => .int .u16 (f j))) (r2 : Rd w a2 l2 (fun j => .int .u16 (t j))) (b1 : ∀ j, f j ≤ 65535) (b2 : ∀ j, t j ≤ 65535) :
    Calls Try.prog 7 #[.int .i64 n, .slice a1 l1 c1, .slice a2 l2 c2] w (TruePost w) := by
  have hmk := run_make_row' (P := Try.prog) 59 3 (.int .i64 0) 8 Try.underlying59 Try.info3 rfl .i64 .i64 n (by omega) (by omega)
  have HR1 : Hid (Rd w a1 l1 (fun j => .int .u16 (f j))) := r1
  have HR2 : Hid (Rd w a2 l2 (fun j => .int .u16 (t j))) := r2
  have HA1 : Hid (a1 = none → l1 = 0 ∧ c1 = 0) := ha1
  have HA2 : Hid (a2 = none → l2 = 0 ∧ c2 = 0) := ha2
  clear r1 r2 ha1 ha2
  have d1 : decide ((65536 : Int) < (l1 : Int)) = false := decide_eq_false (by omega)
  have d2 : decide ((65536 : Int) < (l2 : Int)) = false := decide_eq_false (by omega)
  have d3 : decide ((1048576 : Int) < 2 * (l1 : Int) + 2 * (l2 : Int)) = false := decide_eq_false (by omega)
  have d4 : decide ((n : Int) < 0) = false := decide_eq_false (by omega)
  have d5 : decide ((65536 : Int) < (n : Int)) = false := decide_eq_false (by omega)
  have d6 : ((n : Int) != (n : Int)) = false := by simp
  go_enter Try.func7, Try.ntmps7
  go_wp2_with (go_at_call 30; refine (bytes_yes 30 (.inl rfl) _ _ _ _ _ _ _ _ (by omega)).mono ?_; rintro e w' ⟨rfl, rfl⟩)
  refine (copyU16 a1 l1 c1 (fun j => (f j : Int)) w h1 HA1.out HR1.out).mono ?_
  rintro e w1 ⟨⟨p1, q1, rfl, k1⟩, g1⟩
  have K1 : Hid (Rd w1 p1 l1 (fun j => .int .u16 (f j))) := k1
  clear k1
  go_wp2_with fail
  refine (copyU16 a2 l2 c2 (fun j => (t j : Int)) w1 h2 HA2.out (HR2.out.keep g1 (Nat.le_refl _))).mono ?_
  rintro e w2 ⟨⟨p2, q2, rfl, k2⟩, g2⟩
  have K2 : Hid (Rd w2 p2 l2 (fun j => .int .u16 (t j))) := k2
  clear k2
  go_wp2_with fail
  refine (adj_any n p1 p2 l1 q1 l2 q2 f t w2 hn h1 h2 (K1.out.keep g2 (Nat.le_refl _)) K2.out b1 b2).mono ?_
  rintro e w3 ⟨rfl, A3, g3⟩
  have Bz : Below w.heap.size w w3 := (g1.trans (g2.mono g1.size)).trans (g3.mono (Nat.le_trans g1.size g2.size))
  have hlt := adjOf_lt n f t (min l1 l2)
  have hlen := fun u => adjOf_len n f t (min l1 l2) u (by omega)
  generalize adjOf n f t (min l1 l2) = g at A3 hlt hlen
  clear K1 K2 HR1 HR2 HA1 HA2
  obtain ⟨ba, hba⟩ : ∃ ba, w2.heap.size = ba := ⟨_, rfl⟩
  rw [hba] at A3 ⊢
  clear hba g1 g2 g3
  have HL : Hid (∀ u, u < n → ∀ v ∈ g u, v < n) := hlt
  have HN : Hid (∀ u, (g u).length ≤ 65536) := hlen
  clear hlt hlen
  go_wp2_with fail
  refine (edges_any ba ba n n g w3 hn A3 (fun u => by have := HN.out u; omega)).mono ?_
  rintro e w4 ⟨rfl, G4, g4⟩
  go_wp2_with fail
  refine (comps_any _ _ n n _ g w4 hn G4 (fun u _ => edgesOf_fst g u) (fun u => by have := HN.out u; omega) HL.out).mono ?_
  rintro e w5 ⟨⟨bc1, e1, k1, rfl, hbc1, hrow1, hgood1⟩, g5⟩
  have A5 : AdjIs w5 ba ba n g := by
    obtain ⟨R, hf⟩ := A3
    exact ⟨R, (hf.below (Nat.le_refl _) g4).below (Nat.le_refl _) g5⟩
  have Bz5 : Below w.heap.size w w5 := (Bz.trans (g4.mono Bz.size)).trans (g5.mono (Nat.le_trans Bz.size g4.size))
  clear A3 G4 g4 g5 Bz hbc1
  obtain ⟨M, hM⟩ : ∃ M, w5.heap.size = M := ⟨_, rfl⟩
  have hm1 : bc1 < M := by rw [← hM]; exact hrow1.lt
  have hmk1 := run_make_row' (P := Try.prog) 23 4 (.bool false) 1 Try.underlying23 Try.info4' rfl .i64 .i64 n (by omega) (by omega)
  have hl1 : ∀ x, x < n → e1 x < n := fun x hx => Nat.lt_of_lt_of_le (hgood1.lt x hx) hgood1.le
  have HL1 : Hid (∀ x, x < n → e1 x < n) := hl1
  have HG : Hid (GoodN n g e1 k1) := hgood1
  have hk1n := hgood1.le
  clear hl1 hgood1
  have S0 : (w5.alloc (.cells (madeCells #[.bool false] n) 4)).rowIs M 4 n (fun _ => .bool false) ∧ Below M w5 (w5.alloc (.cells (madeCells #[.bool false] n) 4)) := ⟨rowIs_zeros w5 _ 4 M n hM, (Below.refl M w5).alloc (by omega) _⟩
  go_wp2
  generalize (w5.alloc (.cells (madeCells #[.bool false] n) 4)) = W0 at S0 ⊢
  have HM : Hid (w5.heap.size = M) := hM
  clear hM
  go_loopg [11, 10] n (fun q i kv wr => ∃ v : Nat, v ≤ n ∧ q = n - v ∧ i = .int .i64 v ∧ ∃ kk : Nat, kv = .int .i64 kk ∧ ∃ used : Nat → Bool, wr.rowIs M 4 n (fun j => .bool (used j)) ∧ Below M w5 wr ∧ UsedAt e1 v kk used)
  case atStart => exact ⟨0, Nat.zero_le _, rfl, rfl, 0, rfl, _, S0.1, S0.2, UsedAt.start e1⟩
  case round =>
    clear S0
    obtain ⟨v, hv, rfl, rfl, kk, rfl, used, hrow, hbel, hus⟩ := hrel
    by_cases hlt : v < n
    · have c1 := (hrow1.of_block (hbel.block bc1 hm1)).cell hlt
      have ha := HL1.out v hlt
      have hu1 := hus.step
      obtain ⟨a, hea⟩ : ∃ a, e1 v = a := ⟨_, rfl⟩
      rw [hea] at ha c1 hu1
      simp only [N64] at c1
      clear hea
      have x1 := hrow.cell ha
      have y1 := hrow.frozen a
      have j1 : decide ((a : Int) < 0) = false := decide_eq_false (by omega)
      have j2 : decide ((n : Int) ≤ (a : Int)) = false := decide_eq_false (by omega)
      have S1 := (hrow.set a (.bool true)).congr (g := fun j => .bool (upd used a true j)) (fun i _ => by simp only [upd]; split <;> rfl)
      have B1 := hbel.setCell (p := ⟨M, a, none⟩) (Nat.le_refl _) (.bool true)
      by_cases hka : kk < a + 1
      · have j3 : decide ((kk : Int) < (a : Int) + 1) = true := decide_eq_true (by omega)
        rw [Nat.max_eq_right (by omega)] at hu1
        go_wp2
        go_roundg (n - (v + 1))
        case measure => omega
        case rel => exact ⟨v + 1, by omega, rfl, by go_num, a + 1, by go_num, _, S1, B1, hu1⟩
      · have j3 : decide ((kk : Int) < (a : Int) + 1) = false := decide_eq_false (by omega)
        rw [Nat.max_eq_left (by omega)] at hu1
        go_wp2
        go_roundg (n - (v + 1))
        case measure => omega
        case rel => exact ⟨v + 1, by omega, rfl, by go_num, kk, rfl, _, S1, B1, hu1⟩
    · have : n = v := by omega
      subst this
      obtain ⟨hck, hkk, huse⟩ := hus.done HG.out
      have HCK : Hid (∀ x, x < n → e1 x < kk) := hck
      have HUS : Hid (∀ j, j < kk → used j = true) := huse
      clear hus hck huse
      go_wp2
      go_loopg [13] kk (fun q i wr => ∃ j : Nat, j ≤ kk ∧ q = kk - j ∧ i = .int .i64 j ∧ wr.rowIs M 4 n (fun j => .bool (used j)) ∧ Below M w5 wr)
      case atStart => exact ⟨0, Nat.zero_le _, rfl, rfl, hrow, hbel⟩
      case round =>
        clear hrow hbel
        obtain ⟨j, hj, rfl, rfl, hrow, hbel⟩ := hrel
        by_cases hlt : j < kk
        · have x1 := hrow.cell (i := j) (by omega)
          rw [HUS.out j hlt] at x1
          go_wp2
          go_roundg (kk - (j + 1))
          case measure => omega
          case rel => exact ⟨j + 1, by omega, rfl, by go_num, hrow, hbel⟩
        · clear hrow
          obtain ⟨R, hfam⟩ := A5
          have hM5 := HM.out
          go_wp2
          go_loopg [14, 15] n (fun q i j wr => ∃ u : Nat, u ≤ n ∧ q = n - u ∧ i = .int .i64 u ∧ Below M w5 wr)
          case atStart => exact ⟨0, Nat.zero_le _, rfl, rfl, hbel⟩
          case round =>
            clear hbel
            obtain ⟨u, hu, rfl, rfl, hbel⟩ := hrel
            by_cases hlt : u < n
            · go_wp2
              go_loopg [15] (g u).length (fun q j wr => ∃ k : Nat, k ≤ (g u).length ∧ q = (g u).length - k ∧ j = .int .i64 k ∧ Below M w5 wr)
              case atStart => exact ⟨0, Nat.zero_le _, rfl, rfl, hbel⟩
              case round =>
                clear hbel
                obtain ⟨k, hk, rfl, rfl, hbel⟩ := hrel
                have cg := cell_keep (a := ⟨ba, u, none⟩) hbel (by omega) (hfam.row.cell hlt)
                have hdu := HN.out u
                by_cases hlk : k < (g u).length
                · obtain ⟨gv, cpv, hR, _, hcells⟩ := hfam.cells hlt (by omega)
                  have ct := hcells k (by omega)
                  rw [List.getElem?_map, List.getElem?_eq_getElem hlk] at ct
                  have ct' := cell_keep hbel (by omega) ct
                  simp only [I] at ct'
                  rw [hR] at cg
                  obtain ⟨y, hy⟩ : ∃ y, y = (g u)[k] := ⟨_, rfl⟩
                  rw [← hy] at ct'
                  have hym : y ∈ g u := by rw [hy]; exact List.getElem_mem hlk
                  have hyn := HL.out u hlt y hym
                  clear hy ct hcells hR
                  have x1 := (hrow1.of_block (hbel.block bc1 hm1)).cell hlt
                  have x2 := (hrow1.of_block (hbel.block bc1 hm1)).cell hyn
                  simp only [N64] at x1 x2
                  have hord := HG.out.edge u hlt y hym
                  clear hym
                  generalize e1 u = p1 at x1 hord
                  generalize e1 y = p2 at x2 hord
                  have i1 : (0 : Int) ≤ (u : Int) := by omega
                  have i2 : (u : Int) < (n : Int) := by omega
                  have i3 : (0 : Int) ≤ (y : Int) := by omega
                  have i4 : (y : Int) < (n : Int) := by omega
                  have i5 : (0 : Int) ≤ (k : Int) := by omega
                  have i6 : (k : Int) < ((g u).length : Int) := by omega
                  have j2 : decide ((p1 : Int) < (p2 : Int)) = false := decide_eq_false (by omega)
                  go_wp2
                  go_quiet (fail)
                  go_wp2
                  go_roundg ((g u).length - (k + 1))
                  case measure => omega
                  case rel => exact ⟨k + 1, by omega, rfl, by go_num, Below.drewN' hbel _⟩
                · obtain ⟨ah, ch, hR⟩ := hfam.header hlt
                  rw [hR] at cg
                  clear hR
                  go_wp2
                  go_roundg (n - (u + 1))
                  case measure => omega
                  case rel => exact ⟨u + 1, by omega, rfl, by go_num, hbel⟩
            · have A6 : AdjIs wr ba ba n g := ⟨R, hfam.below (by omega) hbel⟩
              have C6 := hrow1.of_block (hbel.block bc1 hm1)
              have B6 : Below w.heap.size w wr := Bz5.trans (hbel.mono (by have := Bz5.size; omega))
              clear hfam hbel Bz5
              go_wp2_with fail
              refine (reached_any ba ba n n bc1 n kk wr.heap.size g e1 wr rfl hn (by omega) A6 C6 HCK.out HL.out (fun u => by have := HN.out u; omega) (HG.out.linked HL.out)).mono ?_
              rintro e w7 ⟨rfl, g7⟩
              have A7 : AdjIs w7 ba ba n g := by
                obtain ⟨R', hf⟩ := A6
                exact ⟨R', hf.below (Nat.le_refl _) g7⟩
              have C7 := C6.of_block (g7.block bc1 C6.lt)
              have B7 := B6.trans (g7.mono B6.size)
              clear A6 C6 B6 g7
              go_wp2_with fail
              refine (trans_any ba ba n n g w7 hn A7 HN.out HL.out).mono ?_
              rintro e w8 ⟨rfl, A8, g8⟩
              have C8 := C7.of_block (g8.block bc1 C7.lt)
              have B8 := B7.trans (g8.mono B7.size)
              have hT : ∀ u, (transTo g n u).length ≤ 4294967296 := fun u => by have := transTo_len g 65536 HN.out n u; omega
              go_wp2_with fail
              refine (reached_any _ _ n n bc1 n kk w8.heap.size (transTo g n) e1 w8 rfl hn (by omega) A8 C8 HCK.out (rev_in (isRev_trans n g)) hT (HG.out.linked_rev HL.out (isRev_trans n g))).mono ?_
              rintro e w9 ⟨rfl, g9⟩
              go_wp2
              go_ret
              exact ⟨rfl, B8.trans (g9.mono B8.size)⟩

end Go.Proofs.Qxb6600569a
