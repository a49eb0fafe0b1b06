/-
  'FnComponentsOfTheReversedGraphAgree' walked.
-/
import Derived.Test.Qxb6600569aComp
import Derived.Test.Qxb6600569aTrans
import Derived.Test.Qxb6600569aRev
namespace Go.Proofs.Qxb6600569a
open Go.RowKit
open Tj (upd upd_same upd_other)
set_option linter.unusedVariables false

structure TruePost (w : World) (e : Ending) (w' : World) : Prop where
  ret : e = .returned (.bool true)
  below : Below w.heap.size w w'

theorem bytes_yes (f : Nat) (hf : f = 30 ∨ f = 34) (n : Int) (a1 a2 : Option Addr) (l1 c1 l2 c2 : Nat) (w : World) (h : l1 + l2 ≤ 1048576) :
    Calls Try.prog f #[.int .i64 n, .slice a1 l1 c1, .slice a2 l2 c2] w fun e w' => e = .returned (.bool true) ∧ w = w' := by
  refine (bytes_two f hf n a1 a2 l1 c1 l2 c2 w (by unfold maxLen; omega) (by unfold maxLen; omega)).mono ?_
  rintro e w' ⟨rfl, rfl⟩
  exact ⟨ret_bool (decide_eq_true h), rfl⟩

/-- What 'ZZComponents' hands back, with numbers that are naturals. -/
structure CompsPost (w : World) (n : Nat) (g : Nat → List Nat) (e : Ending) (w' : World) : Prop where
  out : ∃ b c k, e = .returned (.slice (some ⟨b, 0, none⟩) n n) ∧ w.heap.size ≤ b ∧ w'.rowIs b 3 n (fun i => N64 (c i)) ∧ GoodN n g c k
  below : Below w.heap.size w w'

theorem comps_any (base bg n cap : Nat) (G : Nat → List (Nat × Int)) (g : Nat → List Nat) (w : World) (hn : n ≤ 65536) (hG : GraphIs w base bg n G) (hg : ∀ u, u < n → g u = (G u).map Prod.fst) (hdeg : ∀ u, (g u).length ≤ 4294967296) (hin : ∀ u, u < n → ∀ v ∈ g u, v < n) :
    Calls Try.prog 31 #[.slice (some ⟨bg, 0, none⟩) n cap] w (CompsPost w n g) := by
  have H := comp_any base bg n cap w.heap.size G g w rfl hn hG hg hdeg hin
  have HH : Hid (Calls Try.prog 38 #[.slice (some ⟨bg, 0, none⟩) n cap] w (CompPost w n g)) := H
  clear H
  go_enter Try.func31, Try.ntmps31
  go_wp2_with (go_at_call 38; refine HH.out.mono ?_; rintro e w' ⟨⟨b, comp, k, rfl, hb, hrow, hgood⟩, hbel⟩)
  go_ret
  refine ⟨⟨b, fun x => (comp x).toNat, k, rfl, hb, hrow.congr fun i hi => ?_, GoodN.of hgood hin⟩, hbel⟩
  have := (hgood.range i hi).1
  show Value.int .i64 (comp i) = .int .i64 (((comp i).toNat : Nat) : Int)
  rw [Int.toNat_of_nonneg this]

theorem adjOf_lt (n : Nat) (f t : Nat → Nat) (m : Nat) : ∀ u, u < n → ∀ v ∈ adjOf n f t m u, v < n := by
  intro u hu v hv
  unfold adjOf at hv
  exact adjTo_lt n f t (by omega) _ u v hv

theorem adjOf_len (n : Nat) (f t : Nat → Nat) (m u : Nat) (hm : m ≤ 65536) : (adjOf n f t m u).length ≤ 65536 := by
  unfold adjOf
  have := adjTo_len n f t (if n = 0 then 0 else m) u
  split at this <;> split <;> omega

theorem edgesOf_fst (g : Nat → List Nat) (u : Nat) : g u = (edgesOf g u).map Prod.fst := by
  simp [edgesOf, List.map_map, Function.comp_def]

theorem isRev_trans (n : Nat) (g : Nat → List Nat) : IsRev n g (transTo g n) := fun x v => mem_transTo g x v n

/-- The two tables in memory. -/
structure At8 (w8 : World) (M n : Nat) (m1 m2 : Nat → Int) (wr : World) : Prop where
  t1 : wr.rowIs M 3 n (fun i => .int .i64 (m1 i))
  t2 : wr.rowIs (M + 1) 3 n (fun i => .int .i64 (m2 i))
  below : Below M w8 wr

theorem At8.start (w8 : World) (M n : Nat) (hM : w8.heap.size = M) : At8 w8 M n (fun _ => 0) (fun _ => 0) ((w8.alloc (.cells (madeCells #[.int .i64 0] n) 3)).alloc (.cells (madeCells #[.int .i64 0] n) 3)) :=
  ⟨(rowIs_zeros w8 _ 3 M n hM).alloc _, rowIs_zeros _ _ 3 (M + 1) n (by simp [hM]), ((Below.refl M w8).alloc (by omega) _).alloc (by simp; omega) _⟩

theorem At8.congr {w8 wr : World} {M n : Nat} {m1 m2 m1' m2' : Nat → Int} (h : At8 w8 M n m1 m2 wr) (e1 : ∀ i, i < n → m1 i = m1' i) (e2 : ∀ i, i < n → m2 i = m2' i) : At8 w8 M n m1' m2' wr :=
  ⟨h.t1.congr fun i hi => by rw [e1 i hi], h.t2.congr fun i hi => by rw [e2 i hi], h.below⟩

theorem At8.set1 {w8 wr : World} {M n : Nat} {m1 m2 : Nat → Int} (h : At8 w8 M n m1 m2 wr) (a : Nat) (x : Int) : At8 w8 M n (upd m1 a x) m2 (wr.setCell ⟨M, a, none⟩ (.int .i64 x)) :=
  ⟨(h.t1.set a _).congr fun i _ => by simp only [upd]; split <;> rfl, h.t2.setOther (by simp) _, h.below.setCell (Nat.le_refl _) _⟩

theorem At8.set2 {w8 wr : World} {M n : Nat} {m1 m2 : Nat → Int} (h : At8 w8 M n m1 m2 wr) (a : Nat) (x : Int) : At8 w8 M n m1 (upd m2 a x) (wr.setCell ⟨M + 1, a, none⟩ (.int .i64 x)) :=
  ⟨h.t1.setOther (by simp) _, (h.t2.set a _).congr fun i _ => by simp only [upd]; split <;> rfl, h.below.setCell (by simp) _⟩

theorem fill_int (k : Nat) {n : Nat} : ∀ i, i < n → upd (fun i => if i < k then (-1 : Int) else 0) k (-1) i = if i < k + 1 then -1 else 0 := by
  intro i _
  by_cases e : i = k
  · subst e; rw [upd_same]; simp
  · rw [upd_other _ _ _ _ e]
    by_cases e' : i < k
    · rw [if_pos e', if_pos (by omega)]
    · rw [if_neg e', if_neg (by omega)]

set_option maxHeartbeats 2000000 in
set_option maxRecDepth 100000 in
theorem rev_main (n : Nat) (a1 a2 : Option Addr) (l1 c1 l2 c2 : Nat) (f t : Nat → Nat) (w : World) (hn : n ≤ 65536) (h1 : l1 ≤ 65536) (h2 : l2 ≤ 65536) (ha1 : a1 = none → l1 = 0 ∧ c1 = 0) (ha2 : a2 = none → l2 = 0 ∧ c2 = 0)
    (r1 : Rd w a1 l1 (fun j => .int .u16 (f j))) (r2 : Rd w a2 l2 (fun j => .int .u16 (t j))) (b1 : ∀ j, f j ≤ 65535) (b2 : ∀ j, t j ≤ 65535) :
    Calls Try.prog 8 #[.int .i64 n, .slice a1 l1 c1, .slice a2 l2 c2] w (TruePost w) := by
  have hmk := run_make_row' (P := Try.prog) 59 3 (.int .i64 0) 8 Try.underlying59 Try.info3 rfl .i64 .i64 n (by omega) (by omega)
  have HR1 : Hid (Rd w a1 l1 (fun j => .int .u16 (f j))) := r1
  have HR2 : Hid (Rd w a2 l2 (fun j => .int .u16 (t j))) := r2
  have HA1 : Hid (a1 = none → l1 = 0 ∧ c1 = 0) := ha1
  have HA2 : Hid (a2 = none → l2 = 0 ∧ c2 = 0) := ha2
  clear r1 r2 ha1 ha2
  have d1 : decide ((65536 : Int) < (l1 : Int)) = false := decide_eq_false (by omega)
  have d2 : decide ((65536 : Int) < (l2 : Int)) = false := decide_eq_false (by omega)
  have d3 : decide ((1048576 : Int) < 2 * (l1 : Int) + 2 * (l2 : Int)) = false := decide_eq_false (by omega)
  have d4 : decide ((n : Int) < 0) = false := decide_eq_false (by omega)
  have d5 : decide ((65536 : Int) < (n : Int)) = false := decide_eq_false (by omega)
  have d6 : ((n : Int) != (n : Int)) = false := by simp
  go_enter Try.func8, Try.ntmps8
  go_wp2_with (go_at_call 34; refine (bytes_yes 34 (.inr rfl) _ _ _ _ _ _ _ _ (by omega)).mono ?_; rintro e w' ⟨rfl, rfl⟩)
  refine (copyU16 a1 l1 c1 (fun j => (f j : Int)) w h1 HA1.out HR1.out).mono ?_
  rintro e w1 ⟨⟨p1, q1, rfl, k1⟩, g1⟩
  have K1 : Hid (Rd w1 p1 l1 (fun j => .int .u16 (f j))) := k1
  clear k1
  go_wp2_with fail
  refine (copyU16 a2 l2 c2 (fun j => (t j : Int)) w1 h2 HA2.out (HR2.out.keep g1 (Nat.le_refl _))).mono ?_
  rintro e w2 ⟨⟨p2, q2, rfl, k2⟩, g2⟩
  have K2 : Hid (Rd w2 p2 l2 (fun j => .int .u16 (t j))) := k2
  clear k2
  go_wp2_with fail
  refine (adj_any n p1 p2 l1 q1 l2 q2 f t w2 hn h1 h2 (K1.out.keep g2 (Nat.le_refl _)) K2.out b1 b2).mono ?_
  rintro e w3 ⟨rfl, A3, g3⟩
  have Bz : Below w.heap.size w w3 := (g1.trans (g2.mono g1.size)).trans (g3.mono (Nat.le_trans g1.size g2.size))
  have hlt := adjOf_lt n f t (min l1 l2)
  have hlen := fun u => adjOf_len n f t (min l1 l2) u (by omega)
  generalize adjOf n f t (min l1 l2) = g at A3 hlt hlen
  clear K1 K2 HR1 HR2 HA1 HA2
  obtain ⟨ba, hba⟩ : ∃ ba, w2.heap.size = ba := ⟨_, rfl⟩
  rw [hba] at A3 ⊢
  clear hba g1 g2 g3
  have HL : Hid (∀ u, u < n → ∀ v ∈ g u, v < n) := hlt
  have HN : Hid (∀ u, (g u).length ≤ 65536) := hlen
  clear hlt hlen
  go_wp2_with fail
  refine (edges_any ba ba n n g w3 hn A3 (fun u => by have := HN.out u; omega)).mono ?_
  rintro e w4 ⟨rfl, G4, g4⟩
  go_wp2_with fail
  refine (comps_any _ _ n n _ g w4 hn G4 (fun u _ => edgesOf_fst g u) (fun u => by have := HN.out u; omega) HL.out).mono ?_
  rintro e w5 ⟨⟨bc1, e1, k1, rfl, hbc1, hrow1, hgood1⟩, g5⟩
  have A5 : AdjIs w5 ba ba n g := by
    obtain ⟨R, hf⟩ := A3
    exact ⟨R, (hf.below (Nat.le_refl _) g4).below (Nat.le_refl _) g5⟩
  have Bz5 : Below w.heap.size w w5 := (Bz.trans (g4.mono Bz.size)).trans (g5.mono (Nat.le_trans Bz.size g4.size))
  clear A3 G4 g4 g5 Bz hbc1
  go_wp2_with fail
  refine (trans_any ba ba n n g w5 hn A5 HN.out HL.out).mono ?_
  rintro e w6 ⟨rfl, A6, g6⟩
  have hT : ∀ u, (transTo g n u).length ≤ 4294967296 := fun u => by have := transTo_len g 65536 HN.out n u; omega
  go_wp2_with fail
  refine (edges_any _ _ n n (transTo g n) w6 hn A6 hT).mono ?_
  rintro e w7 ⟨rfl, G7, g7⟩
  go_wp2_with fail
  refine (comps_any _ _ n n _ (transTo g n) w7 hn G7 (fun u _ => edgesOf_fst _ u) hT (rev_in (isRev_trans n g))).mono ?_
  rintro e w8 ⟨⟨bc2, e2, k2, rfl, hbc2, hrow2, hgood2⟩, g8⟩
  have hb78 : Below w5.heap.size w5 w8 := (g6.trans (g7.mono g6.size)).trans (g8.mono (Nat.le_trans g6.size g7.size))
  have A8 : AdjIs w8 ba ba n g := by
    obtain ⟨R, hf⟩ := A5
    exact ⟨R, hf.below (Nat.le_refl _) hb78⟩
  have hr1 : w8.rowIs bc1 3 n (fun i => N64 (e1 i)) := hrow1.of_block (hb78.block bc1 hrow1.lt)
  have hne : bc1 < bc2 := by have := hrow1.lt; have := g6.size; have := g7.size; omega
  have Bz8 : Below w.heap.size w w8 := Bz5.trans (hb78.mono Bz5.size)
  clear A5 A6 G7 g6 g7 g8 hb78 hrow1 Bz5 hT hbc2
  obtain ⟨M, hM⟩ : ∃ M, w8.heap.size = M := ⟨_, rfl⟩
  have hm1 : bc1 < M := by rw [← hM]; exact hr1.lt
  have hm2 : bc2 < M := by rw [← hM]; exact hrow2.lt
  have hag : ∀ u v, u < n → v < n → (e1 u = e1 v ↔ e2 u = e2 v) := fun u v hu hv => classes_agree hgood1 hgood2 (isRev_trans n g) HL.out hu hv
  have hed : ∀ u v, u < n → v ∈ g u → e1 u ≠ e1 v → e1 v < e1 u ∧ e2 u < e2 v := fun u v hu hv hne => edge_agree hgood1 hgood2 (isRev_trans n g) HL.out hu hv hne
  have hl1 : ∀ x, x < n → e1 x < n := fun x hx => Nat.lt_of_lt_of_le (hgood1.lt x hx) hgood1.le
  have hl2 : ∀ x, x < n → e2 x < n := fun x hx => Nat.lt_of_lt_of_le (hgood2.lt x hx) hgood2.le
  have HE : Hid (∀ u v, u < n → v ∈ g u → e1 u ≠ e1 v → e1 v < e1 u ∧ e2 u < e2 v) := hed
  have HAG : Hid (∀ u v, u < n → v < n → (e1 u = e1 v ↔ e2 u = e2 v)) := hag
  have HL1 : Hid (∀ x, x < n → e1 x < n) := hl1
  have HL2 : Hid (∀ x, x < n → e2 x < n) := hl2
  clear hag hed hl1 hl2 hgood1 hgood2
  have BzM : Below w.heap.size w w8 := Bz8
  clear Bz8
  have S0 : At8 w8 M n (fun _ => 0) (fun _ => 0) ((w8.alloc (.cells (madeCells #[.int .i64 0] n) 3)).alloc (.cells (madeCells #[.int .i64 0] n) 3)) := At8.start w8 M n hM
  go_wp2
  generalize ((w8.alloc (.cells (madeCells #[.int .i64 0] n) 3)).alloc (.cells (madeCells #[.int .i64 0] n) 3)) = W0 at S0 ⊢
  have HM : Hid (w8.heap.size = M) := hM
  clear hM
  go_loopg [12] n (fun q i wr => ∃ k : Nat, k ≤ n ∧ q = n - k ∧ i = .int .i64 k ∧ At8 w8 M n (fun i => if i < k then -1 else 0) (fun i => if i < k then -1 else 0) wr)
  case atStart => exact ⟨0, Nat.zero_le _, rfl, rfl, by simpa using S0⟩
  case round =>
    clear S0
    obtain ⟨k, hk, rfl, rfl, hat⟩ := hrel
    by_cases hlt : k < n
    · have c1 := hat.t1.cell hlt
      have c2 := hat.t2.cell hlt
      have f1 := hat.t1.frozen k
      have f2 := hat.t2.frozen k
      go_wp2
      go_roundg (n - (k + 1))
      case measure => omega
      case rel => exact ⟨k + 1, by omega, rfl, by go_num, ((hat.set1 k (-1)).set2 k (-1)).congr (fill_int k) (fill_int k)⟩
    · have : n = k := by omega
      subst this
      have hat := hat.congr (m1' := fun _ => -1) (m2' := fun _ => -1) (fun i hi => by simp [hi]) (fun i hi => by simp [hi])
      go_wp2
      go_loopg [13] n (fun q i wr => ∃ v : Nat, v ≤ n ∧ q = n - v ∧ i = .int .i64 v ∧ ∃ m1 m2, At8 w8 M n m1 m2 wr ∧ Tables n e1 e2 v m1 m2)
      case atStart => exact ⟨0, Nat.zero_le _, rfl, rfl, _, _, hat, Tables.start n e1 e2⟩
      case round =>
        clear hat
        obtain ⟨v, hv, rfl, rfl, m1, m2, hat, htab⟩ := hrel
        by_cases hlt : v < n
        · have c1 := (hr1.of_block (hat.below.block bc1 hm1)).cell hlt
          have c2 := (hrow2.of_block (hat.below.block bc2 hm2)).cell hlt
          have ha := HL1.out v hlt
          have hb := HL2.out v hlt
          obtain ⟨a, hea⟩ : ∃ a, e1 v = a := ⟨_, rfl⟩
          obtain ⟨b, heb⟩ : ∃ b, e2 v = b := ⟨_, rfl⟩
          rw [hea] at ha c1
          rw [heb] at hb c2
          simp only [N64] at c1 c2
          have x1 := hat.t1.cell ha
          have x2 := hat.t2.cell hb
          have y1 := hat.t1.frozen a
          have y2 := hat.t2.frozen b
          have j1 : decide ((a : Int) < 0) = false := decide_eq_false (by omega)
          have j2 : decide ((n : Int) ≤ (a : Int)) = false := decide_eq_false (by omega)
          have j3 : decide ((b : Int) < 0) = false := decide_eq_false (by omega)
          have j4 : decide ((n : Int) ≤ (b : Int)) = false := decide_eq_false (by omega)
          by_cases hno : ∀ u, u < v → e1 u ≠ e1 v
          · obtain ⟨z1, z2, htab'⟩ := htab.new (fun u hu => HAG.out u v hu hlt) hlt hno
            rw [hea] at z1
            rw [heb] at z2
            rw [hea, heb] at htab'
            rw [z1] at x1
            rw [z2] at x2
            clear z1 z2 hno hea heb
            go_wp2
            go_roundg (n - (v + 1))
            case measure => omega
            case rel => exact ⟨v + 1, by omega, rfl, by go_num, _, _, (hat.set1 a b).set2 b a, htab'⟩
          · obtain ⟨u, hu, heu⟩ : ∃ u, u < v ∧ e1 u = e1 v := by
              refine Classical.byContradiction fun hh => hno fun u hu e => hh ⟨u, hu, e⟩
            obtain ⟨z1, z2, htab'⟩ := htab.old (fun u hu => HAG.out u v hu hlt) hlt hu heu
            rw [hea, heb] at z1 z2
            rw [z1] at x1
            rw [z2] at x2
            clear z1 z2 hno hea heb heu
            go_wp2
            go_roundg (n - (v + 1))
            case measure => omega
            case rel => exact ⟨v + 1, by omega, rfl, by go_num, _, _, hat, htab'⟩
        · have : n = v := by omega
          subst this
          have hbel := hat.below
          clear hat htab
          obtain ⟨R, hfam⟩ := A8
          have hM8 := HM.out
          go_wp2
          go_loopg [16, 17, 18] n (fun q i j x wr => ∃ u : Nat, u ≤ n ∧ q = n - u ∧ i = .int .i64 u ∧ Below M w8 wr)
          case atStart => exact ⟨0, Nat.zero_le _, rfl, rfl, hbel⟩
          case round =>
            clear hbel
            obtain ⟨u, hu, rfl, rfl, hbel⟩ := hrel
            by_cases hlt : u < n
            · go_wp2
              go_loopg [17, 18] (g u).length (fun q j x wr => ∃ k : Nat, k ≤ (g u).length ∧ q = (g u).length - k ∧ j = .int .i64 k ∧ Below M w8 wr)
              case atStart => exact ⟨0, Nat.zero_le _, rfl, rfl, hbel⟩
              case round =>
                clear hbel
                obtain ⟨k, hk, rfl, rfl, hbel⟩ := hrel
                have cg := cell_keep (a := ⟨ba, u, none⟩) hbel (by omega) (hfam.row.cell hlt)
                have hdu := HN.out u
                by_cases hlk : k < (g u).length
                · obtain ⟨gv, cpv, hR, _, hcells⟩ := hfam.cells hlt (by omega)
                  have ct := hcells k (by omega)
                  rw [List.getElem?_map, List.getElem?_eq_getElem hlk] at ct
                  have ct' := cell_keep hbel (by omega) ct
                  simp only [I] at ct'
                  rw [hR] at cg
                  obtain ⟨y, hy⟩ : ∃ y, y = (g u)[k] := ⟨_, rfl⟩
                  rw [← hy] at ct'
                  have hym : y ∈ g u := by rw [hy]; exact List.getElem_mem hlk
                  have hyn := HL.out u hlt y hym
                  clear hy ct hcells hR
                  have x1 := (hr1.of_block (hbel.block bc1 hm1)).cell hlt
                  have x2 := (hr1.of_block (hbel.block bc1 hm1)).cell hyn
                  have x3 := (hrow2.of_block (hbel.block bc2 hm2)).cell hlt
                  have x4 := (hrow2.of_block (hbel.block bc2 hm2)).cell hyn
                  simp only [N64] at x1 x2 x3 x4
                  have hord := HE.out u y hlt hym
                  generalize e1 u = p1 at x1 hord
                  generalize e1 y = p2 at x2 hord
                  generalize e2 u = p3 at x3 hord
                  generalize e2 y = p4 at x4 hord
                  have i1 : (0 : Int) ≤ (u : Int) := by omega
                  have i2 : (u : Int) < (n : Int) := by omega
                  have i3 : (0 : Int) ≤ (y : Int) := by omega
                  have i4 : (y : Int) < (n : Int) := by omega
                  by_cases hpe : p1 = p2
                  · subst hpe
                    clear hord
                    have j1 : ((p1 : Int) != (p1 : Int)) = false := by simp
                    go_wp2
                    go_quiet (fail)
                    go_wp2
                    go_roundg ((g u).length - (k + 1))
                    case measure => omega
                    case rel => exact ⟨k + 1, by omega, rfl, by go_num, Below.drewN' hbel _⟩
                  · obtain ⟨o1, o2⟩ := hord hpe
                    clear hord hpe
                    have j1 : ((p1 : Int) != (p2 : Int)) = true := by rw [bne_iff_ne]; omega
                    have j2 : decide ((p2 : Int) < (p1 : Int)) = true := decide_eq_true (by omega)
                    have j3 : decide ((p3 : Int) < (p4 : Int)) = true := decide_eq_true (by omega)
                    go_wp2
                    go_quiet (fail)
                    go_wp2
                    go_roundg ((g u).length - (k + 1))
                    case measure => omega
                    case rel => exact ⟨k + 1, by omega, rfl, by go_num, Below.drewN' hbel _⟩
                · obtain ⟨ah, ch, hR⟩ := hfam.header hlt
                  rw [hR] at cg
                  clear hR
                  go_wp2
                  go_roundg (n - (u + 1))
                  case measure => omega
                  case rel => exact ⟨u + 1, by omega, rfl, by go_num, hbel⟩
            · go_wp2
              go_ret
              exact ⟨rfl, BzM.trans (hbel.mono (by have := BzM.size; omega))⟩

end Go.Proofs.Qxb6600569a
