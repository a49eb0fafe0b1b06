/-
  'FnRealTimePathsLinkExactlyEarlierFinishToLaterStart' walked.
-/
import Derived.Test.Qxb6600569aRtStarts
import Derived.Test.Qxb6600569aPtPlain
import Derived.Test.Qxb6600569aRtRead
import Derived.Deep.QuietTactic
import Derived.BigQuiet
import Derived.Deep.CutRange
import Derived.Deep.RegionWith
namespace Go.Proofs.Qxb6600569a
open Go.RowKit
set_option linter.unusedVariables false

/-- What the reading of the five slices is good for. -/
structure Five (w : World) (a1 a2 a3 a4 a5 : Option Addr) (l1 l2 l3 l4 l5 c1 c2 c3 c4 c5 : Nat) (s f : Nat → Int) (ab : Nat → Bool) (fr tg : Nat → Nat) : Prop where
  r1 : Rd w a1 l1 (fun j => .int .i64 (s j))
  r2 : Rd w a2 l2 (fun j => .int .i64 (f j))
  r3 : Rd w a3 l3 (fun j => .bool (ab j))
  r4 : Rd w a4 l4 (fun j => .int .u16 (fr j))
  r5 : Rd w a5 l5 (fun j => .int .u16 (tg j))
  n1 : a1 = none → l1 = 0 ∧ c1 = 0
  n2 : a2 = none → l2 = 0 ∧ c2 = 0
  n3 : a3 = none → l3 = 0 ∧ c3 = 0
  n4 : a4 = none → l4 = 0 ∧ c4 = 0
  n5 : a5 = none → l5 = 0 ∧ c5 = 0
  b4 : ∀ j, fr j ≤ 65535
  b5 : ∀ j, tg j ≤ 65535

theorem adjOf_lt' (n : Nat) (f t : Nat → Nat) (m : Nat) : ∀ u, u < n → ∀ v ∈ adjOf n f t m u, v < n := by
  intro u hu v hv
  unfold adjOf at hv
  exact adjTo_lt n f t (by omega) _ u v hv

theorem adjOf_len' (n : Nat) (f t : Nat → Nat) (m u : Nat) (hm : m ≤ 65536) : (adjOf n f t m u).length ≤ 65536 := by
  unfold adjOf
  have := adjTo_len n f t (if n = 0 then 0 else m) u
  split at this <;> split <;> omega

set_option maxHeartbeats 100000000 in
set_option maxRecDepth 100000 in
theorem pt_main (a1 a2 a3 a4 a5 : Option Addr) (l1 l2 l3 l4 l5 c1 c2 c3 c4 c5 : Nat) (s f : Nat → Int) (ab : Nat → Bool) (fr tg : Nat → Nat) (w : World) (h1 : l1 ≤ 65536) (h2 : l2 ≤ 65536) (h3 : l3 ≤ 65536) (h4 : l4 ≤ 65536) (h5 : l5 ≤ 65536)
    (hF : Five w a1 a2 a3 a4 a5 l1 l2 l3 l4 l5 c1 c2 c3 c4 c5 s f ab fr tg) :
    Calls Try.prog 5 #[.slice a1 l1 c1, .slice a2 l2 c2, .slice a3 l3 c3, .slice a4 l4 c4, .slice a5 l5 c5] w (TrueR w) := by
  have d1 : decide ((65536 : Int) < (l1 : Int)) = false := decide_eq_false (by omega)
  have d2 : decide ((65536 : Int) < (l2 : Int)) = false := decide_eq_false (by omega)
  have d3 : decide ((65536 : Int) < (l3 : Int)) = false := decide_eq_false (by omega)
  have d4 : decide ((65536 : Int) < (l4 : Int)) = false := decide_eq_false (by omega)
  have d5 : decide ((65536 : Int) < (l5 : Int)) = false := decide_eq_false (by omega)
  go_enter Try.func5, Try.ntmps5
  go_wp2_with fail
  refine (bytes_paths a1 a2 a3 a4 a5 l1 c1 l2 c2 l3 c3 l4 c4 l5 c5 w (by unfold maxLen; omega) (by unfold maxLen; omega) (by unfold maxLen; omega) (by unfold maxLen; omega) (by unfold maxLen; omega)).mono ?_
  rintro e w' ⟨rfl, rfl⟩
  cases hbb : decide (l1 + l2 + l3 + l4 + l5 ≤ 1048576)
  · go_wp2
    go_ret
    exact ⟨rfl, Below.refl _ _⟩
  by_cases htb : 1048576 < 8 * l1 + 8 * l2 + l3 + 2 * l4 + 2 * l5
  · have dt : decide ((1048576 : Int) < 8 * (l1 : Int) + 8 * (l2 : Int) + (l3 : Int) + 2 * (l4 : Int) + 2 * (l5 : Int)) = true := decide_eq_true (by omega)
    go_wp2
    go_ret
    exact ⟨rfl, Below.refl _ _⟩
  have dt : decide ((1048576 : Int) < 8 * (l1 : Int) + 8 * (l2 : Int) + (l3 : Int) + 2 * (l4 : Int) + 2 * (l5 : Int)) = false := decide_eq_false (by omega)
  clear hbb htb
  have HF : Hid (Five w' a1 a2 a3 a4 a5 l1 l2 l3 l4 l5 c1 c2 c3 c4 c5 s f ab fr tg) := hF
  clear hF
  obtain ⟨n, hn⟩ : ∃ n, n = min l1 (min l2 l3) := ⟨_, rfl⟩
  have HN : Hid (n = min l1 (min l2 l3)) := hn
  have q1 := fun wx => min2_nat l2 l3 (min l2 l3) rfl wx
  have q2 := fun wx => min2_nat l1 (min l2 l3) n hn wx
  clear hn
  by_cases h512 : 512 < n
  · have dn : decide ((512 : Int) < (n : Int)) = true := decide_eq_true (by omega)
    go_wp2_with fail
    refine (q1 _).mono ?_
    rintro e w' ⟨rfl, rfl⟩
    go_wp2_with fail
    refine (q2 _).mono ?_
    rintro e w' ⟨rfl, rfl⟩
    go_wp2
    go_ret
    exact ⟨rfl, Below.refl _ _⟩
  have dn : decide ((512 : Int) < (n : Int)) = false := decide_eq_false (by omega)
  have dn' : decide (512 < n) = false := decide_eq_false (by omega)
  go_wp2_with fail
  refine (q1 _).mono ?_
  rintro e w' ⟨rfl, rfl⟩
  go_wp2_with fail
  refine (q2 _).mono ?_
  rintro e w' ⟨rfl, rfl⟩
  clear q1 q2
  have hn6 : n ≤ 65536 := by omega
  go_wp2_with fail
  refine (copyI64 a1 l1 c1 s w' h1 HF.out.n1 HF.out.r1).mono ?_
  rintro e w1 ⟨⟨p1, q1, rfl, k1⟩, g1⟩
  go_wp2_with fail
  refine (copyI64 a2 l2 c2 f w1 h2 HF.out.n2 (HF.out.r2.keep g1 (Nat.le_refl _))).mono ?_
  rintro e w2 ⟨⟨p2, q2, rfl, k2⟩, g2⟩
  have b2 : Below w'.heap.size w' w2 := g1.trans (g2.mono g1.size)
  go_wp2_with fail
  refine (copyBool a3 l3 c3 ab w2 h3 HF.out.n3 (HF.out.r3.keep b2 (Nat.le_refl _))).mono ?_
  rintro e w3 ⟨⟨p3, q3, rfl, k3⟩, g3⟩
  have b3 : Below w'.heap.size w' w3 := b2.trans (g3.mono b2.size)
  go_wp2_with fail
  refine (copyU16 a4 l4 c4 (fun j => (fr j : Int)) w3 h4 HF.out.n4 (HF.out.r4.keep b3 (Nat.le_refl _))).mono ?_
  rintro e w4 ⟨⟨p4, q4, rfl, k4⟩, g4⟩
  have b4 : Below w'.heap.size w' w4 := b3.trans (g4.mono b3.size)
  go_wp2_with fail
  refine (copyU16 a5 l5 c5 (fun j => (tg j : Int)) w4 h5 HF.out.n5 (HF.out.r5.keep b4 (Nat.le_refl _))).mono ?_
  rintro e w5 ⟨⟨p5, q5, rfl, k5⟩, g5⟩
  have b5 : Below w'.heap.size w' w5 := b4.trans (g5.mono b4.size)
  have qT := rtTxns p1 p2 p3 l1 q1 l2 q2 l3 q3 n s f ab w5 HN.out hn6 h1 h2 h3 ((((k1.keep g2 (Nat.le_refl _)).keep g3 (Nat.le_refl _)).keep g4 (Nat.le_refl _)).keep g5 (Nat.le_refl _)) (((k2.keep g3 (Nat.le_refl _)).keep g4 (Nat.le_refl _)).keep g5 (Nat.le_refl _)) ((k3.keep g4 (Nat.le_refl _)).keep g5 (Nat.le_refl _))
  have k4' : Rd w5 p4 l4 (fun j => .int .u16 (fr j)) := k4.keep g5 (Nat.le_refl _)
  have k5' : Rd w5 p5 l5 (fun j => .int .u16 (tg j)) := k5
  have qA := fun wx (hb : Below w5.heap.size w5 wx) => adj_any n p4 p5 l4 q4 l5 q5 fr tg wx hn6 h4 h5 (k4'.keep hb (Nat.le_refl _)) (k5'.keep hb (Nat.le_refl _)) HF.out.b4 HF.out.b5
  clear k1 k2 k3 k4 k5 k4' k5' g1 g2 g3 g4 g5 b2 b3 b4 HN HF
  go_upto_region 16 with (go_at_call 22; refine qT.mono ?_; rintro e w6 ⟨rfl, hrow, hb6⟩)
  go_upto_region 17 with (go_at_call 23; refine (qA _ hb6).mono ?_; rintro e w7 ⟨rfl, hadj, hb7⟩)
  clear qT qA
  have hglen : ∀ u, (adjOf n fr tg (min l4 l5) u).length ≤ 65536 := fun u => adjOf_len' n fr tg (min l4 l5) u (by omega)
  have hglt : ∀ u, u < n → ∀ v ∈ adjOf n fr tg (min l4 l5) u, v < n := adjOf_lt' n fr tg (min l4 l5)
  generalize adjOf n fr tg (min l4 l5) = g at hadj hglen hglt
  have qI := newIndex w5.heap.size n n w7
  have hT5 : w5.heap.size < w6.heap.size := hrow.lt
  have hs7 := hb7.size
  have qE := fun o => edges_any w6.heap.size w6.heap.size n n g (w7.alloc o) hn6 ⟨hadj.fam.choose, (hadj.fam.choose_spec).alloc o⟩ (fun u => Nat.le_trans (hglen u) (by omega))
  have qR := fun wx (o : Array Value) t (ho : o[0]? = some (Value.slice (some ⟨w5.heap.size, 0, none⟩) n n)) (hb : Below (w7.heap.size + 1) (w7.alloc (.cells o t)) wx) (hgr : GraphIs wx (w7.heap.size + 1) (w7.heap.size + 1) n (edgesOf g)) =>
    realZ (w7.heap.size + 1) w7.heap.size w5.heap.size (w7.heap.size + 1) n s f (fun i => !ab i) (edgesOf g) wx hn6 (cell_keep hb (by simp) ((Rt.cell_new w7 o t 0).trans ho)) ((((hrow.of_block (hb7.block _ hT5)).alloc _)).of_block (hb.block _ (by omega))) (by omega) hgr (fun u => by simp [edgesOf]; exact Nat.le_trans (hglen u) (by omega))
  go_upto_region 18 with (first
    | (go_at_call 25; refine qI.mono ?_; rintro e w8 ⟨rfl, rfl⟩)
    | (go_at_call 26; refine (qE _).mono ?_; rintro e w9 ⟨rfl, hgr, hb9⟩; simp only [World.size_alloc] at hgr hb9)
    | (go_at_call 24; refine (qR _ _ _ rfl hb9 hgr).mono ?_; rintro e W ⟨⟨b', cap, M, rfl, hM, hgraph⟩, hbR⟩))
  have hbW : Below w'.heap.size w' W := by
    have e1 := b5.trans (hb6.mono b5.size)
    have e2 := e1.trans (hb7.mono e1.size)
    have e3 := e2.alloc e2.size (.cells #[.slice (some ⟨w5.heap.size, 0, none⟩) n n, .map none, .map none, .slice none 0 0] 80)
    have e4 := e3.trans (hb9.mono (by have := e2.size; omega))
    exact e4.trans (hbR.mono (by have := e2.size; omega))
  have hb79 : Below w7.heap.size w7 w9 := ((Below.refl w7.heap.size w7).alloc (Nat.le_refl _) _).trans (hb9.mono (by omega))
  have hb7W : Below w7.heap.size w7 W := hb79.trans (hbR.mono (by omega))
  have hTW : W.rowIs w5.heap.size 40 (n * 6) (wide 6 (rtAll s f (fun i => !ab i))) := (hrow.of_block (hb7.block _ hT5)).of_block (hb7W.block _ (by omega))
  obtain ⟨RA, hadjf⟩ := hadj.fam
  have hadW := hadjf.below (Nat.le_refl _) hb7W
  have hT3' : w5.heap.size < W.heap.size := by have := hb7W.size; omega
  clear qR qE qI hrow hb6 hb7 hb9 hbR hb79 b5 hgr hadj hadjf hT5
  have tm := Rt.times_tm s (fun i => !ab i) n
  generalize Rt.times s (fun i => !ab i) n = L at hM hgraph tm ⊢
  generalize (fun i => !ab i) = c at hgraph hTW tm
  have hD := tm.len
  have TM : Hid (Rt.Tm s c n L) := tm
  have HT : Hid (W.rowIs w5.heap.size 40 (n * 6) (wide 6 (rtAll s f c))) := hTW
  obtain ⟨R, hfam⟩ := hgraph.fam
  obtain ⟨T, hTe⟩ : ∃ T, w5.heap.size = T := ⟨_, rfl⟩
  rw [hTe] at HT hTW hT3' ⊢
  clear hTe tm hTW
  have HY : Hid (∀ i, i < n → W.cell? ⟨T, i * 6 + 4, none⟩ = some (.int .i8 (if c i then 0 else 1)) ∧ W.cell? ⟨T, i * 6 + 2, none⟩ = some (.int .i64 (s i)) ∧ W.cell? ⟨T, i * 6 + 3, none⟩ = some (.int .i64 (f i))) := fun i hi =>
    ⟨rowIs_cellAt HT.out hi (j := 4) (by omega), rowIs_cellAt HT.out hi (j := 2) (by omega), rowIs_cellAt HT.out hi (j := 3) (by omega)⟩
  have HDC : Hid (Rt.dc s c n = L.length) := TM.out.count
  go_wp2
  go_loopg [15, 16, 17, 18] n (fun q v15 v16 v17 v18 wr => ∃ i q2 : Nat, i ≤ n ∧ q = n - i ∧ v15 = .int .i64 (Rt.dc s c i) ∧ v16 = .int .i64 i ∧ wr = W.drewN q2)
  case atStart => exact ⟨0, 0, Nat.zero_le _, rfl, rfl, rfl, rfl⟩
  case round => as_aux_lemma =>
    obtain ⟨i, q2, hi, rfl, rfl, rfl, rfl⟩ := hrel
    by_cases hlt : i < n
    · obtain ⟨y4, y2, y3⟩ := HY.out i hlt
      have i1 : (i : Int) < (n : Int) := by omega
      have hdi := Rt.dc_le (s := s) (c := c) i
      cases hc : c i with
      | false =>
        have ESUC : Hid (Rt.dc s c (i + 1) = Rt.dc s c i) := by
          show Rt.dc s c (i + 1) = Rt.dc s c i
          rw [Rt.dc_succ, hc]; simp
        simp [hc] at y4
        go_wp2
        go_roundg (n - (i + 1))
        case measure => omega
        case rel => exact ⟨i + 1, _, by omega, rfl, by rw [ESUC.out], by go_num, rfl⟩
      | true =>
        simp [hc] at y4
        have ESUC : Hid (Rt.dc s c (i + 1) = Rt.dc s c i + if Rt.fst s c i i = true then 1 else 0) := by
          show Rt.dc s c (i + 1) = _
          rw [Rt.dc_succ, hc, Bool.true_and]
        go_wp2
        go_loopg [17, 18] i (fun q v17 v18 wr => ∃ j q2 : Nat, j ≤ i ∧ q = i - j ∧ v17 = .bool true ∧ v18 = .int .i64 j ∧ Rt.fst s c i j = true ∧ wr = W.drewN q2)
        case atStart => exact ⟨0, _, Nat.zero_le _, rfl, rfl, rfl, rfl, rfl⟩
        case round => as_aux_lemma =>
          obtain ⟨j, q2, hj, rfl, rfl, rfl, hfst, rfl⟩ := hrel
          have FST : Hid (Rt.fst s c i j = true) := hfst
          clear hfst
          by_cases hlj : j < i
          · obtain ⟨x4, x2, x3⟩ := HY.out j (by omega)
            have j1 : (j : Int) < (n : Int) := by omega
            have j2 : j < n := by omega
            cases hcj : c j with
            | false =>
              simp [hcj] at x4
              have FS : Hid (Rt.fst s c i (j + 1) = true) := by
                show Rt.fst s c i (j + 1) = true
                rw [Rt.fst_succ, FST.out, hcj]; rfl
              go_upto_region 27 with fail
              go_quiet (fail)
              go_wp2
              go_roundg (i - (j + 1))
              case measure => omega
              case rel => exact ⟨j + 1, _, by omega, rfl, rfl, by go_num, FS.out, rfl⟩
            | true =>
              simp [hcj] at x4
              by_cases hs : s j = s i
              · have FS : Hid (Rt.fst s c i i = false) := Rt.fst_found i i j hlj hcj hs
                have hsd : decide (s j = s i) = true := decide_eq_true hs
                rw [hs] at x2
                clear hs
                go_upto_region 27 with fail
                go_quiet (fail)
                go_wp2
                go_roundg (n - (i + 1))
                case measure => omega
                case rel =>
                  have e1 := ESUC.out
                  rw [FS.out] at e1
                  exact ⟨i + 1, _, by omega, rfl, by rw [e1]; rfl, by go_num, rfl⟩
              · have FS : Hid (Rt.fst s c i (j + 1) = true) := by
                  show Rt.fst s c i (j + 1) = true
                  rw [Rt.fst_succ, FST.out, hcj, decide_eq_false hs]; rfl
                have hsd : decide (s j = s i) = false := decide_eq_false hs
                go_upto_region 27 with fail
                go_quiet (fail)
                go_wp2
                go_roundg (i - (j + 1))
                case measure => omega
                case rel => exact ⟨j + 1, _, by omega, rfl, rfl, by go_num, FS.out, rfl⟩
          · have : j = i := by omega
            subst this
            go_wp2
            go_roundg (n - (j + 1))
            case measure => omega
            case rel =>
              have e1 := ESUC.out
              rw [FST.out] at e1
              exact ⟨j + 1, _, by omega, rfl, by rw [e1]; go_num, by go_num, rfl⟩
    · have : n = i := by omega
      subst this
      clear hlt
      rw [HDC.out]
      have hb0 : Below W.heap.size W (W.drewN q2) := Rt.below_drewN (Below.refl _ _) q2
      go_wp2
      go_loopg [20, 21, 22, 23, 24, 25, 26] (n + L.length) (fun q v20 v21 v22 v23 v24 v25 v26 wr => ∃ v : Nat, v ≤ n + L.length ∧ q = n + L.length - v ∧ v20 = .int .i64 v ∧ Below W.heap.size W wr)
      case atStart => exact ⟨0, Nat.zero_le _, rfl, rfl, hb0⟩
      case round => as_aux_lemma =>
        clear hb0
        obtain ⟨v, hv, rfl, rfl, hbel⟩ := hrel
        by_cases hlt : v < n + L.length
        · have hru : v < M := by omega
          obtain ⟨ar, rc, hRv⟩ := hfam.header hru
          have xr := hfam.row.cell hru
          rw [hRv] at xr
          have xrw : Hid (∀ wx, Below W.heap.size W wx → wx.cell? ⟨b', v, none⟩ = some (.slice ar (Rt.rowsEnd n s f c L (edgesOf g) (L.length - 1) v).length rc)) := fun wx h => cell_keep h (Nat.le_refl _) xr
          have hio : (v : Int) < (n : Int) + (L.length : Int) := by omega
          go_upto_if 176 with fail
          go_cut [21, 22, 23] from 176 to 215 (fun v21 v22 v23 wx => v21 = .int .i64 ((Rt.oldN (edgesOf g) n v : Nat) : Int) ∧ Below W.heap.size W wx)
          case first => as_aux_lemma =>
            by_cases hvn : v < n
            · have hold : Hid (Rt.oldN (edgesOf g) n v = (g v).length) := by
                show Rt.oldN (edgesOf g) n v = (g v).length
                unfold Rt.oldN; rw [if_pos hvn]; simp [edgesOf]
              have hlE := Rt.old_len (n := n) (s := s) (f := f) (c := c) (L := L) (G := edgesOf g) v hvn
              have hgl : (edgesOf g v).length = (g v).length := by simp [edgesOf]
              rw [hgl] at hlE
              have hle : (g v).length ≤ (Rt.rowsEnd n s f c L (edgesOf g) (L.length - 1) v).length := by omega
              obtain ⟨aa, ac, hRA⟩ := hadW.header hvn
              have xa := hadW.row.cell hvn
              rw [hRA] at xa
              have xaw : Hid (∀ wx, Below W.heap.size W wx → wx.cell? ⟨w6.heap.size, v, none⟩ = some (.slice aa (g v).length ac)) := fun wx h => cell_keep h (Nat.le_refl _) xa
              have y1 := xaw.out wr hbel
              have y2 := xrw.out wr hbel
              have hEk : Hid (∀ k (h : k < (g v).length), (Rt.rowsEnd n s f c L (edgesOf g) (L.length - 1) v).getD k (0, 0) = ((g v)[k], 0)) := fun k h => by
                rw [Rt.old_edge v k hvn (by rw [hgl]; exact h)]; simp [edgesOf]
              have hfe : Hid (0 < (g v).length → ∃ gg cap, Value.slice ar (Rt.rowsEnd n s f c L (edgesOf g) (L.length - 1) v).length rc = .slice (some ⟨gg, 0, none⟩) (Rt.rowsEnd n s f c L (edgesOf g) (L.length - 1) v).length cap ∧ ∀ k, k < (g v).length → W.cell? ⟨gg, k * 3, none⟩ = some (.int .i64 ((Rt.rowsEnd n s f c L (edgesOf g) (L.length - 1) v).getD k (0, 0)).1) ∧ W.cell? ⟨gg, k * 3 + 1, none⟩ = some (.int .i8 ((Rt.rowsEnd n s f c L (edgesOf g) (L.length - 1) v).getD k (0, 0)).2) ∧ W.cell? ⟨gg, k * 3 + 2, none⟩ = some (.string ⟨#[]⟩)) := fun h0 => by
                obtain ⟨gg, cap, e1, e2⟩ := fam_edge hfam hru (by omega)
                rw [hRv] at e1
                exact ⟨gg, cap, e1, fun k hk => e2 k (by omega)⟩
              generalize Rt.rowsEnd n s f c L (edgesOf g) (L.length - 1) v = ES at hlE hle xrw xr y2 hEk hfe
              obtain ⟨len, hl⟩ : ∃ len, ES.length = len := ⟨_, rfl⟩
              rw [hl] at hle xrw xr y2 hfe
              obtain ⟨gl, hgl2⟩ : ∃ gl, (g v).length = gl := ⟨_, rfl⟩
              have HGL : Hid ((g v).length = gl) := hgl2
              rw [hgl2] at hle hold y1 xa xaw hfe
              have hgl6 : gl ≤ 65536 := by rw [← hgl2]; exact hglen v
              have t8 : decide (v < n) = true := decide_eq_true hvn
              have t9 : decide ((v : Int) < (n : Int)) = true := decide_eq_true (by omega)
              have t1 : decide ((len : Int) < (gl : Int)) = false := decide_eq_false (by omega)
              have t2 : decide (len < gl) = false := decide_eq_false (by omega)
              have t3 : (v : Int) < (n : Int) := by omega
              clear hlE hl hgl hgl2 hRv hRA
              rw [t8]
              go_wp2
              clear y1 y2 xa xr
              go_loopg [22, 23] gl (fun q v22 v23 wr => ∃ k : Nat, k ≤ gl ∧ q = gl - k ∧ v22 = .int .i64 k ∧ Below W.heap.size W wr)
              case atStart => exact ⟨0, Nat.zero_le _, rfl, rfl, hbel⟩
              case round => as_aux_lemma =>
                clear hbel
                obtain ⟨k, hk, rfl, rfl, hbel⟩ := hrel
                by_cases hlk : k < gl
                · obtain ⟨gg, gcap, e1, e2⟩ := hfe.out (by omega)
                  obtain ⟨z1, z2, z3⟩ := e2 k hlk
                  rw [hEk.out k (by rw [HGL.out]; exact hlk)] at z1 z2
                  have y2 := xrw.out wr hbel
                  rw [e1] at y2
                  have z1 := cell_keep hbel (Nat.le_refl _) z1
                  have z2 := cell_keep hbel (Nat.le_refl _) z2
                  have z3 := cell_keep hbel (Nat.le_refl _) z3
                  simp only at z1 z2
                  obtain ⟨ga, gac, e3, _, e4⟩ := hadW.cells hvn (show 0 < (g v).length by rw [HGL.out]; omega)
                  have e5 := hadW.row.cell hvn
                  rw [e3, HGL.out] at e5
                  have e6 := e4 k (show k < (g v).length * 1 by rw [HGL.out]; omega)
                  rw [List.getElem?_map, List.getElem?_eq_getElem (show k < (g v).length by rw [HGL.out]; exact hlk)] at e6
                  simp only [Option.map_some, I] at e6
                  obtain ⟨t, ht⟩ : ∃ t, (g v)[k]'(by rw [HGL.out]; exact hlk) = t := ⟨_, rfl⟩
                  rw [ht] at z1 e6
                  have y5 : Hid (∀ wx, Below W.heap.size W wx → wx.cell? ⟨w6.heap.size, v, none⟩ = some (.slice (some ⟨ga, 0, none⟩) gl gac) ∧ wx.cell? ⟨ga, k, none⟩ = some (.int .i64 t)) := fun wx h => ⟨cell_keep h (Nat.le_refl _) e5, cell_keep h (Nat.le_refl _) e6⟩
                  clear e1 e2 e3 e4 e5 e6 ht
                  have t4 : (k : Int) < (gl : Int) := by omega
                  have t5 : (k : Int) < (len : Int) := by omega
                  have t6 : k < len := by omega
                  have hbs := hbel.size
                  go_upto_region 46 with fail
                  go_cut [215] from 201 to 215 (fun v215 wx => v215 = .bool false ∧ Below W.heap.size W wx)
                  case first => as_aux_lemma =>
                    have hA1 := fun o => hbel.alloc hbs o
                    have hA2 := fun o o' => (hA1 o).alloc (by simp; omega) o'
                    have hA3 := fun o o' o'' => (hA2 o o').alloc (by simp; omega) o''
                    have n1 := fun o => (y5.out _ (hA1 o)).1
                    have n2 := fun o => (y5.out _ (hA1 o)).2
                    have n3 := fun o o' => (y5.out _ (hA2 o o')).1
                    have n4 := fun o o' => (y5.out _ (hA2 o o')).2
                    have n5 : ((t : Int) != (t : Int)) = false := by simp
                    have n6 : decide ((t : Int) = (t : Int)) = true := decide_eq_true rfl
                    go_region_with (first
                      | (go_at_call 27; refine (edgeTo _ _ _).mono ?_; rintro e w' ⟨rfl, rfl⟩)
                      | (go_at_call 28; refine (edgeKind _ _ _).mono ?_; rintro e w' ⟨rfl, rfl⟩))
                    all_goals
                      go_wp2
                      go_meet
                      exact ⟨rfl, (hA3 _ _ _).drew⟩
                  case rest => as_aux_lemma =>
                    obtain ⟨rfl, hb5⟩ := hcut
                    go_wp2
                    go_roundg (gl - (k + 1))
                    case measure => omega
                    case rel => exact ⟨k + 1, by omega, rfl, by go_num, hb5⟩
                · have : k = gl := by omega
                  subst this
                  go_wp2
                  go_meet
                  exact ⟨by rw [hold.out], hbel⟩
            · have hold : Hid (Rt.oldN (edgesOf g) n v = 0) := by
                show Rt.oldN (edgesOf g) n v = 0
                unfold Rt.oldN; rw [if_neg hvn]
              have t1 : decide ((v : Int) < (n : Int)) = false := decide_eq_false (by omega)
              have t2 : decide (v < n) = false := decide_eq_false (by omega)
              go_wp2
              go_meet
              exact ⟨by rw [hold.out]; rfl, hbel⟩
          case rest => as_aux_lemma =>
            obtain ⟨rfl, hbc⟩ := hcut
            clear hbel
            have hlay : Hid (∀ k, Rt.oldN (edgesOf g) n v ≤ k → k < (Rt.rowsEnd n s f c L (edgesOf g) (L.length - 1) v).length → ∃ t, (Rt.rowsEnd n s f c L (edgesOf g) (L.length - 1) v).getD k (0, 0) = (t, 3) ∧ t < n + L.length ∧ (v < n → n ≤ t ∧ c v = true) ∧ (¬ v < n → t < n → c t = true)) := fun k h1 h2 => Rt.laid_edge v k hlt h1 h2
            have hfe : Hid (0 < (Rt.rowsEnd n s f c L (edgesOf g) (L.length - 1) v).length → ∃ gg cap, Value.slice ar (Rt.rowsEnd n s f c L (edgesOf g) (L.length - 1) v).length rc = .slice (some ⟨gg, 0, none⟩) (Rt.rowsEnd n s f c L (edgesOf g) (L.length - 1) v).length cap ∧ ∀ k, k < (Rt.rowsEnd n s f c L (edgesOf g) (L.length - 1) v).length → W.cell? ⟨gg, k * 3, none⟩ = some (.int .i64 ((Rt.rowsEnd n s f c L (edgesOf g) (L.length - 1) v).getD k (0, 0)).1) ∧ W.cell? ⟨gg, k * 3 + 1, none⟩ = some (.int .i8 ((Rt.rowsEnd n s f c L (edgesOf g) (L.length - 1) v).getD k (0, 0)).2) ∧ W.cell? ⟨gg, k * 3 + 2, none⟩ = some (.string ⟨#[]⟩)) := fun h0 => by
              obtain ⟨gg, cap, e1, e2⟩ := fam_edge hfam hru h0
              rw [hRv] at e1
              exact ⟨gg, cap, e1, e2⟩
            have hole : Rt.oldN (edgesOf g) n v ≤ (Rt.rowsEnd n s f c L (edgesOf g) (L.length - 1) v).length ∧ (Rt.rowsEnd n s f c L (edgesOf g) (L.length - 1) v).length ≤ 131072 := by
              unfold Rt.oldN
              by_cases e : v < n
              · rw [if_pos e, Rt.old_len v e]
                have := hglen v
                have h7 : (edgesOf g v).length = (g v).length := by simp [edgesOf]
                refine ⟨by omega, ?_⟩
                split <;> omega
              · rw [if_neg e]
                obtain ⟨j, rfl⟩ : ∃ j, v = n + j := ⟨v - n, by omega⟩
                have := Rt.rowsEnd_len_time (n := n) (s := s) (f := f) (c := c) (L := L) (G := edgesOf g) (L.length - 1) j
                exact ⟨Nat.zero_le _, by omega⟩
            clear xr
            generalize Rt.rowsEnd n s f c L (edgesOf g) (L.length - 1) v = ES at xrw hlay hfe hole
            obtain ⟨len, hl⟩ : ∃ len, ES.length = len := ⟨_, rfl⟩
            rw [hl] at xrw hlay hfe hole
            generalize Rt.oldN (edgesOf g) n v = old at hlay hole ⊢
            clear hl hRv
            obtain ⟨ho1, ho2⟩ := hole
            go_wp2
            go_loopg [24, 25, 26] (len - old) (fun q v24 v25 v26 wr => ∃ k : Nat, old ≤ k ∧ k ≤ len ∧ q = len - k ∧ v24 = .int .i64 k ∧ Below W.heap.size W wr)
            case atStart => exact ⟨old, Nat.le_refl _, ho1, rfl, rfl, hbc⟩
            case round => as_aux_lemma =>
              clear hbc
              obtain ⟨k, hk1, hk2, rfl, rfl, hbel⟩ := hrel
              have y2 := xrw.out wr hbel
              by_cases hlk : k < len
              · obtain ⟨gg, gcap, e1, e2⟩ := hfe.out (by omega)
                obtain ⟨z1, z2, z3⟩ := e2 k hlk
                obtain ⟨t, ht, ht1, ht2, ht3⟩ := hlay.out k hk1 hlk
                rw [ht] at z1 z2
                rw [e1] at y2
                have z1 := cell_keep hbel (Nat.le_refl _) z1
                have z2 := cell_keep hbel (Nat.le_refl _) z2
                have z3 := cell_keep hbel (Nat.le_refl _) z3
                simp only at z1 z2
                clear e1 e2 ht
                have t4 : (k : Int) < (len : Int) := by omega
                have t5 : decide ((t : Int) < 0) = false := decide_eq_false (by omega)
                have t6 : decide ((n : Int) + (L.length : Int) ≤ (t : Int)) = false := decide_eq_false (by omega)
                have t7 : decide (n + L.length ≤ t) = false := decide_eq_false (by omega)
                have hbs := hbel.size
                have hA1 := fun o => hbel.alloc hbs o
                have hA2 := fun o o' => (hA1 o).alloc (by simp; omega) o'
                have hA3 := fun o o' o'' => (hA2 o o').alloc (by simp; omega) o''
                go_upto_region 55 with (first
                  | (go_at_call 28; refine (edgeKind _ _ _).mono ?_; rintro e w' ⟨rfl, rfl⟩)
                  | (go_at_call 27; refine (edgeTo _ _ _).mono ?_; rintro e w' ⟨rfl, rfl⟩))
                have hb3 := hA3 (.cells #[.int .i64 t, .int .i8 3, .string ⟨#[]⟩] 63) (.cells #[.int .i64 t, .int .i8 3, .string ⟨#[]⟩] 63) (.cells #[.int .i64 t, .int .i8 3, .string ⟨#[]⟩] 63)
                clear hA1 hA2 hA3 hbel z1 z2 z3 y2 hbs
                generalize ((wr.alloc _).alloc _).alloc _ = wx at hb3 ⊢
                by_cases hvn : v < n
                · obtain ⟨ht4, hcv⟩ := ht2 hvn
                  obtain ⟨x4, _, _⟩ := HY.out v hvn
                  have x4 := cell_keep hb3 (Nat.le_refl _) x4
                  simp [hcv] at x4
                  have o1 : decide ((v : Int) < (n : Int)) = true := decide_eq_true (by omega)
                  have o2 : decide (v < n) = true := decide_eq_true (by omega)
                  have o3 : decide ((t : Int) < (n : Int)) = false := decide_eq_false (by omega)
                  have o4 : decide (t < n) = false := decide_eq_false (by omega)
                  have o5 : decide ((n : Int) ≤ (v : Int)) = false := decide_eq_false (by omega)
                  have o6 : decide (n ≤ v) = false := decide_eq_false (by omega)
                  have o7 : (v : Int) < (n : Int) := by omega
                  clear ht2 ht3
                  go_wp2
                  go_roundg (len - (k + 1))
                  case measure => omega
                  case rel => exact ⟨k + 1, by omega, by omega, rfl, by go_num, hb3⟩
                · have o1 : decide ((v : Int) < (n : Int)) = false := decide_eq_false (by omega)
                  have o2 : decide (v < n) = false := decide_eq_false (by omega)
                  have o5 : decide ((n : Int) ≤ (v : Int)) = true := decide_eq_true (by omega)
                  have o6 : decide (n ≤ v) = true := decide_eq_true (by omega)
                  by_cases htn : t < n
                  · have hct := ht3 hvn htn
                    obtain ⟨x4, _, _⟩ := HY.out t htn
                    have x4 := cell_keep hb3 (Nat.le_refl _) x4
                    simp [hct] at x4
                    have o3 : decide ((t : Int) < (n : Int)) = true := decide_eq_true (by omega)
                    have o4 : decide (t < n) = true := decide_eq_true (by omega)
                    have o7 : (t : Int) < (n : Int) := by omega
                    clear ht2 ht3
                    go_wp2
                    go_roundg (len - (k + 1))
                    case measure => omega
                    case rel => exact ⟨k + 1, by omega, by omega, rfl, by go_num, hb3⟩
                  · have o3 : decide ((t : Int) < (n : Int)) = false := decide_eq_false (by omega)
                    have o4 : decide (t < n) = false := decide_eq_false (by omega)
                    clear ht2 ht3
                    go_wp2
                    go_roundg (len - (k + 1))
                    case measure => omega
                    case rel => exact ⟨k + 1, by omega, by omega, rfl, by go_num, hb3⟩
              · have : k = len := by omega
                subst this
                go_wp2
                go_roundg (n + L.length - (v + 1))
                case measure => omega
                case rel => exact ⟨v + 1, by omega, rfl, by go_num, hbel⟩
        · have : v = n + L.length := by omega
          subst this
          clear hlt hv
          obtain ⟨V, hVe⟩ : ∃ V, V = wr := ⟨_, rfl⟩
          subst hVe
          have hbV : Below w'.heap.size w' V := hbW.trans (hbel.mono hbW.size)
          have hfamV := hfam.below (Nat.le_refl _) hbel
          have hadV := hadW.below (Nat.le_refl _) hbel
          have HYV : Hid (∀ i, i < n → V.cell? ⟨T, i * 6 + 4, none⟩ = some (.int .i8 (if c i then 0 else 1)) ∧ V.cell? ⟨T, i * 6 + 2, none⟩ = some (.int .i64 (s i)) ∧ V.cell? ⟨T, i * 6 + 3, none⟩ = some (.int .i64 (f i))) := fun i hi =>
            ⟨cell_keep hbel (Nat.le_refl _) (HY.out i hi).1, cell_keep hbel (Nat.le_refl _) (HY.out i hi).2.1, cell_keep hbel (Nat.le_refl _) (HY.out i hi).2.2⟩
          clear hfam hadW HY HT hbel hT3' hgraph
          have hmk1 := run_make_row' (P := Try.prog) 23 4 (.bool false) 1 Try.underlying23 Try.info4' rfl .i64 .i64 n (by omega) (by omega)
          have hmk2 := run_make_row' (P := Try.prog) 23 4 (.bool false) 1 Try.underlying23 Try.info4' rfl .i64 .i64 L.length (by omega) (by omega)
          have hmk3 := run_make_queue L.length (by omega)
          obtain ⟨i3, hi3, hz30, hz31, hz32⟩ := info_parts Try.info3
          have S0 := AtP.start V n L.length (by omega)
          have t1 : decide (((n + L.length : Nat) : Int) < (n : Int) + (L.length : Int)) = false := decide_eq_false (by omega)
          go_wp2
          clear hmk1 hmk2 hmk3 t1
          generalize (((V.alloc (.cells (madeCells #[.bool false] n) 4)).alloc (.cells (madeCells #[.bool false] L.length) 4)).alloc (.cells (madeCells #[.int .i64 0] L.length) 3)) = W0 at S0 ⊢
          rename_i K15 J4 K14 a16 a15 K13 a14 K12 J3 K11 a13 a12 K10 a11 K9 a10
          clear a16 a15 a14 a13 a12 a11
          go_loopg [29, 30, 31, 32, 33, 34, 35, 36, 37, 38, 39, 40] n (fun q v29 v30 v31 v32 v33 v34 v35 v36 v37 v38 v39 v40 wr => ∃ a : Nat, ∃ re sn qq, a ≤ n ∧ q = n - a ∧ v30 = .int .i64 a ∧ AtP V V.heap.size n L.length re sn v29 qq wr)
          case atStart => exact ⟨0, _, _, _, Nat.zero_le _, rfl, rfl, S0⟩
          case round => as_aux_lemma =>
            clear S0
            obtain ⟨a, re, sn, qq, ha, rfl, rfl, hat⟩ := hrel
            by_cases hlt : a < n
            · obtain ⟨y4, _, _⟩ := HYV.out a hlt
              have x4 := cell_keep hat.below (Nat.le_refl _) y4
              have i1 : (a : Int) < (n : Int) := by omega
              cases hc : c a with
              | false =>
                simp [hc] at x4
                go_wp2
                go_roundg (n - (a + 1))
                case measure => omega
                case rel => exact ⟨a + 1, _, _, _, by omega, rfl, by go_num, hat⟩
              | true =>
                simp [hc] at x4
                go_wp2
                clear x4 y4
                go_loopg [31] n (fun q v31 wr => ∃ b : Nat, ∃ re', b ≤ n ∧ q = n - b ∧ v31 = .int .i64 b ∧ AtP V V.heap.size n L.length re' sn u29 qq wr ∧ ∀ i, i < b → re' i = false)
                case atStart => exact ⟨0, re, Nat.zero_le _, rfl, rfl, hat, fun i hi => by omega⟩
                case round => as_aux_lemma =>
                  clear hat
                  obtain ⟨b, re', hb, rfl, rfl, hat, hre⟩ := hrel
                  have HRE : Hid (∀ i, i < b → re' i = false) := hre
                  clear hre
                  by_cases hlb : b < n
                  · have z1 := hat.rear.cell hlb
                    have f1 := hat.rear.frozen b
                    have i2 : (b : Int) < (n : Int) := by omega
                    go_wp2
                    go_roundg (n - (b + 1))
                    case measure => omega
                    case rel =>
                      refine ⟨b + 1, _, by omega, rfl, by go_num, hat.setRea b false, fun i hi => ?_⟩
                      by_cases e : i = b
                      · simp [e]
                      · simp only [e, if_false]; exact HRE.out i (by omega)
                  · have : n = b := by omega
                    subst this
                    clear hlb
                    have hat1 := hat.congr (rea' := Rt.rea s c L n (Rt.aft L (f a)) 0 0) (fun i hi => by rw [HRE.out i hi, Rt.rea_zero]) (fun i _ => rfl)
                    clear hat HRE
                    go_wp2
                    go_loopg [32] L.length (fun q v32 wr => ∃ b : Nat, ∃ sn', b ≤ L.length ∧ q = L.length - b ∧ v32 = .int .i64 b ∧ AtP V V.heap.size n L.length (Rt.rea s c L n (Rt.aft L (f a)) 0 0) sn' u29 qq wr ∧ ∀ i, i < b → sn' i = false)
                    case atStart => exact ⟨0, sn, Nat.zero_le _, rfl, rfl, hat1, fun i hi => by omega⟩
                    case round => as_aux_lemma =>
                      clear hat1
                      obtain ⟨b, sn', hb, rfl, rfl, hat, hre⟩ := hrel
                      have HRE : Hid (∀ i, i < b → sn' i = false) := hre
                      clear hre
                      by_cases hlb : b < L.length
                      · have z1 := hat.seen.cell hlb
                        have f1 := hat.seen.frozen b
                        have i2 : (b : Int) < (L.length : Int) := by omega
                        go_wp2
                        go_roundg (L.length - (b + 1))
                        case measure => omega
                        case rel =>
                          refine ⟨b + 1, _, by omega, rfl, by go_num, hat.setSeen b false, fun i hi => ?_⟩
                          by_cases e : i = b
                          · simp [e]
                          · simp only [e, if_false]; exact HRE.out i (by omega)
                      · have : b = L.length := by omega
                        subst this
                        clear hlb
                        obtain ⟨aq, cq, hqv⟩ := hat.shape
                        subst hqv
                        have hat2 := (hat.congr (sn' := Rt.sn (Rt.aft L (f a)) 0) (fun i _ => rfl) (fun i hi => by rw [HRE.out i hi, Rt.sn_zero])).reset
                        clear hat HRE
                        have hat3 : AtP V V.heap.size n L.length (Rt.rea s c L n (Rt.aft L (f a)) 0 0) (Rt.sn (Rt.aft L (f a)) 0) (.slice aq 0 cq) (Rt.qu n (Rt.aft L (f a)) 0) wr := hat2
                        clear hat2
                        have hru : a < M := by omega
                        obtain ⟨ar, rc, hRv⟩ := hfamV.header hru
                        obtain ⟨aa, ac, hRA⟩ := hadV.header hlt
                        have xr := hfamV.row.cell hru
                        have xa := hadV.row.cell hlt
                        rw [hRv] at xr
                        rw [hRA] at xa
                        have xrw : Hid (∀ wx, Below V.heap.size V wx → wx.cell? ⟨b', a, none⟩ = some (.slice ar (Rt.rowsEnd n s f c L (edgesOf g) (L.length - 1) a).length rc)) := fun wx h => cell_keep h (Nat.le_refl _) xr
                        have xaw : Hid (∀ wx, Below V.heap.size V wx → wx.cell? ⟨w6.heap.size, a, none⟩ = some (.slice aa (g a).length ac)) := fun wx h => cell_keep h (Nat.le_refl _) xa
                        have hgl : (edgesOf g a).length = (g a).length := by simp [edgesOf]
                        have hlE : Hid ((Rt.rowsEnd n s f c L (edgesOf g) (L.length - 1) a).length = (g a).length + (if Rt.aft L (f a) < L.length then 1 else 0)) := by
                          have := Rt.old_len (n := n) (s := s) (f := f) (c := c) (L := L) (G := edgesOf g) a hlt
                          rw [hgl] at this
                          show _ = _
                          rw [this, hc]; simp
                        have hnew : Hid (∀ k, ¬ k < (g a).length → k < (Rt.rowsEnd n s f c L (edgesOf g) (L.length - 1) a).length → (Rt.rowsEnd n s f c L (edgesOf g) (L.length - 1) a).getD k (0, 0) = (n + Rt.aft L (f a), 3) ∧ k = (g a).length ∧ Rt.aft L (f a) < L.length) := fun k h1 h2 => by
                          obtain ⟨e1, e2, _, e3⟩ := Rt.new_edge (n := n) (s := s) (f := f) (c := c) (L := L) (G := edgesOf g) a k hlt (by rw [hgl]; exact h1) h2
                          exact ⟨e1, by rw [e2, hgl], e3⟩
                        have hfe : Hid (0 < (Rt.rowsEnd n s f c L (edgesOf g) (L.length - 1) a).length → ∃ gg cap, Value.slice ar (Rt.rowsEnd n s f c L (edgesOf g) (L.length - 1) a).length rc = .slice (some ⟨gg, 0, none⟩) (Rt.rowsEnd n s f c L (edgesOf g) (L.length - 1) a).length cap ∧ ∀ k, k < (Rt.rowsEnd n s f c L (edgesOf g) (L.length - 1) a).length → V.cell? ⟨gg, k * 3, none⟩ = some (.int .i64 ((Rt.rowsEnd n s f c L (edgesOf g) (L.length - 1) a).getD k (0, 0)).1) ∧ V.cell? ⟨gg, k * 3 + 1, none⟩ = some (.int .i8 ((Rt.rowsEnd n s f c L (edgesOf g) (L.length - 1) a).getD k (0, 0)).2) ∧ V.cell? ⟨gg, k * 3 + 2, none⟩ = some (.string ⟨#[]⟩)) := fun h0 => by
                          obtain ⟨gg, cap, e1, e2⟩ := fam_edge hfamV hru h0
                          rw [hRv] at e1
                          exact ⟨gg, cap, e1, e2⟩
                        have hgl6 := hglen a
                        generalize Rt.rowsEnd n s f c L (edgesOf g) (L.length - 1) a = ES at xr xrw hlE hnew hfe
                        obtain ⟨len, hl⟩ : ∃ len, ES.length = len := ⟨_, rfl⟩
                        obtain ⟨gl, hgl2⟩ : ∃ gl, (g a).length = gl := ⟨_, rfl⟩
                        rw [hl] at xr xrw hlE hnew hfe
                        rw [hgl2] at xa xaw hlE hnew hgl6
                        obtain ⟨v, hv⟩ : ∃ v, Rt.aft L (f a) = v := ⟨_, rfl⟩
                        have HV : Hid (Rt.aft L (f a) = v) := hv
                        rw [hv] at hat3 hlE hnew
                        have hlE2 : gl ≤ len ∧ len ≤ gl + 1 := by
                          have := hlE.out
                          split at this <;> omega
                        obtain ⟨ho1, ho2⟩ := hlE2
                        have xa' := xaw.out wr hat3.below
                        clear hl hgl hgl2 hRv hRA xr xa hv
                        go_wp2
                        go_loopg [29, 33, 34] (len - gl) (fun q v29 v33 v34 wr => ∃ k : Nat, gl ≤ k ∧ k ≤ len ∧ q = len - k ∧ v33 = .int .i64 k ∧ AtP V V.heap.size n L.length (Rt.rea s c L n v 0 0) (Rt.sn v (k - gl)) v29 (Rt.qu n v (k - gl)) wr)
                        case atStart => exact ⟨gl, Nat.le_refl _, ho1, rfl, rfl, by rw [Nat.sub_self]; exact hat3⟩
                        case round => as_aux_lemma =>
                          clear hat3 xa'
                          obtain ⟨k, hk1, hk2, rfl, rfl, hat⟩ := hrel
                          have y2 := xrw.out wr hat.below
                          by_cases hlk : k < len
                          · obtain ⟨gg, gcap, e1, e2⟩ := hfe.out (by omega)
                            obtain ⟨z1, z2, z3⟩ := e2 k hlk
                            obtain ⟨e3, hkg, hvD⟩ := hnew.out k (by omega) hlk
                            subst hkg
                            rw [e3] at z1 z2
                            rw [e1] at y2
                            rw [Nat.sub_self] at hat
                            have z1 := cell_keep hat.below (Nat.le_refl _) z1
                            have z2 := cell_keep hat.below (Nat.le_refl _) z2
                            have z3 := cell_keep hat.below (Nat.le_refl _) z3
                            simp only at z1 z2
                            clear e1 e2 e3
                            have t4 : (k : Int) < (len : Int) := by omega
                            have hatA := fun o => hat.alloc o
                            go_upto_region 79 with (go_at_call 27; refine (edgeTo _ _ _).mono ?_; rintro e w' ⟨rfl, rfl⟩)
                            have hat5 := hatA (.cells #[.int .i64 ((n : Int) + (v : Int)), .int .i8 3, .string ⟨#[]⟩] 63)
                            clear hatA hat z1 z2 z3 y2
                            generalize wr.alloc _ = wx at hat5 ⊢
                            obtain ⟨aq, cq, hqv⟩ := hat5.shape
                            subst hqv
                            have z1 := hat5.seen.cell hvD
                            rw [Rt.sn_zero] at z1
                            have f1 := hat5.seen.frozen v
                            have t5 : (n : Int) + (v : Int) - (n : Int) = (v : Int) := by omega
                            have t6 : (v : Int) < (L.length : Int) := by omega
                            have S1 := hat5.setSeen v true
                            have hro := S1.own
                            rw [Rt.qu_len] at hro ⊢
                            have hbg := hat5.big
                            go_wp2_with (at_builtin; refine wpList_append_lies _ rfl (.tmp 348) (.tmp 350) 59 rfl (V.heap.size + 2) 3 i3 (.int .i64 0) 1 8 Try.underlying59 hi3 hz30 hz31 hz32 rfl (by decide) (.slice aq 0 cq) 0 ((Rt.qu n v 0).map I) rfl (by exact hro.alloc _) ⟨wx.heap.size, 0, none⟩ 1 1 [.int .i64 ((n + v : Nat) : Int)] rfl rfl ?h0 ?h1 (by decide) ?h2 ?h3 ?h4 (wx.heap.size + 1) (by simp) ?_)
                            case h0 =>
                              refine World.news_of_block (cs := #[.int .i64 ((n + v : Nat) : Int)]) (t := 3) (fr := (0, 0)) ?_
                              have h9 := heap_alloc_new (wx.setCell ⟨V.heap.size + 1, v, none⟩ (.bool true)) (.cells #[.int .i64 ((n + v : Nat) : Int)] 3)
                              simp only [World.size_setCell] at h9
                              exact h9
                            case h1 => intro x hx; simp at hx; subst hx; rfl
                            case h2 => unfold maxLen; omega
                            case h3 => omega
                            case h4 => simp; omega
                            intro g1 cap1 w1 hown hgrow hat1 hlt1
                            have S2 := S1.push (x := n + v) (by rw [Rt.qu_len]; exact hown) hgrow
                            rw [Rt.qu_len] at S2
                            clear hown hgrow hat1 hlt1 hro z1 f1 hat5 S1
                            go_wp2
                            go_roundg (len - (k + 1))
                            case measure => omega
                            case rel =>
                              refine ⟨k + 1, by omega, by omega, rfl, by go_num, ?_⟩
                              rw [show k + 1 - k = 1 by omega]
                              have S3 := S2.congr (rea' := Rt.rea s c L n v 0 0) (sn' := Rt.sn v 1) (fun i _ => rfl) (fun j _ => by rw [← Rt.sn_step v 0 j]; rfl)
                              exact S3
                          · have hkl : k = len := by omega
                            have hql : k - gl = min (0 + 1) (L.length - v) := by
                              have := hlE.out
                              split at this <;> omega
                            rw [hql] at hat
                            clear hql hlk hnew hfe
                            subst hkl
                            go_wp2
                            clear y2
                            go_loopg [29, 35, 36, 37, 38] (L.length - v) (fun q v29 v35 v36 v37 v38 wr => ∃ h : Nat, h ≤ L.length - v ∧ q = L.length - v - h ∧ v35 = .int .i64 h ∧ AtP V V.heap.size n L.length (Rt.rea s c L n v h 0) (Rt.sn v (min (h + 1) (L.length - v))) v29 (Rt.qu n v (min (h + 1) (L.length - v))) wr)
                            case atStart => exact ⟨0, Nat.zero_le _, rfl, rfl, hat⟩
                            case round => as_aux_lemma =>
                              clear hat
                              obtain ⟨h, hh, rfl, rfl, hat⟩ := hrel
                              by_cases hlh : h < L.length - v
                              · have hmin : min (h + 1) (L.length - v) = h + 1 := by omega
                                rw [hmin] at hat
                                have hj : v + h < L.length := by omega
                                have hru2 : n + (v + h) < M := by omega
                                have hp := TM.out.some hj
                                have hlen := Rt.time_len (n := n) (s := s) (f := f) (c := c) (L := L) (G := edgesOf g) (v + h) hj
                                obtain ⟨gg, gc, hRe, hge⟩ := fam_edge hfamV hru2 (by omega)
                                have hte : Hid (∀ k, k < (Rt.rowsEnd n s f c L (edgesOf g) (L.length - 1) (n + (v + h))).length → ∃ t, (Rt.rowsEnd n s f c L (edgesOf g) (L.length - 1) (n + (v + h))).getD k (0, 0) = (t, 3) ∧ ((k < (Rt.grp s c L n (v + h)).length ∧ t < n ∧ c t = true ∧ (Rt.grp s c L n (v + h))[k]? = some t) ∨ (¬ k < (Rt.grp s c L n (v + h)).length ∧ k = (Rt.grp s c L n (v + h)).length ∧ t = n + (v + h) + 1 ∧ v + h + 1 < L.length))) := fun k hk => Rt.time_edge' (v + h) k hj hk
                                have xh := hfamV.row.cell hru2
                                rw [hRe] at xh
                                have xhw : Hid (∀ wx, Below V.heap.size V wx → wx.cell? ⟨b', n + (v + h), none⟩ = some (.slice (some ⟨gg, 0, none⟩) (Rt.rowsEnd n s f c L (edgesOf g) (L.length - 1) (n + (v + h))).length gc)) := fun wx h => cell_keep h (Nat.le_refl _) xh
                                have hEn : (Rt.rowsEnd n s f c L (edgesOf g) (L.length - 1) (n + (v + h))).length ≤ n + 1 := Rt.rowsEnd_len_time _ _
                                have HGE : Hid (∀ k, k < (Rt.rowsEnd n s f c L (edgesOf g) (L.length - 1) (n + (v + h))).length → V.cell? ⟨gg, k * 3, none⟩ = some (.int .i64 ((Rt.rowsEnd n s f c L (edgesOf g) (L.length - 1) (n + (v + h))).getD k (0, 0)).1) ∧ V.cell? ⟨gg, k * 3 + 1, none⟩ = some (.int .i8 ((Rt.rowsEnd n s f c L (edgesOf g) (L.length - 1) (n + (v + h))).getD k (0, 0)).2) ∧ V.cell? ⟨gg, k * 3 + 2, none⟩ = some (.string ⟨#[]⟩)) := hge
                                generalize Rt.rowsEnd n s f c L (edgesOf g) (L.length - 1) (n + (v + h)) = ET at hlen HGE hte xhw hEn
                                obtain ⟨len2, hl2⟩ : ∃ len2, ET.length = len2 := ⟨_, rfl⟩
                                obtain ⟨p, hpe⟩ : ∃ p, (Rt.grp s c L n (v + h)).length = p := ⟨_, rfl⟩
                                rw [hl2] at hlen HGE hte xhw hEn
                                rw [hpe] at hlen hp hte
                                have HP : Hid ((Rt.grp s c L n (v + h)).length = p) := hpe
                                have HLEN : Hid (len2 = p + (if v + h + 1 < L.length then 1 else 0)) := hlen
                                obtain ⟨gq, gqc, hqv, hqc⟩ := hat.at (i := h) (by rw [Rt.qu_len]; omega)
                                rw [Rt.qu_get] at hqc
                                rw [Rt.qu_len] at hqv
                                subst hqv
                                simp only [I] at hqc
                                have x1 := xhw.out wr hat.below
                                have w1' : ((n + v + h : Nat) : Int) = (n : Int) + (v : Int) + (h : Int) := by omega
                                have w2' : (h : Int) < (h : Int) + 1 := by omega
                                have w3' : (n : Int) + (v : Int) + (h : Int) < (n : Int) + (L.length : Int) := by omega
                                have w4' : n + v + h < n + L.length := by omega
                                have hat6 : AtP V V.heap.size n L.length (Rt.rea s c L n v h 0) (Rt.sn v (h + 1 + (0 - p))) (.slice (some ⟨gq, 0, none⟩) (h + 1) gqc) (Rt.qu n v (h + 1 + (0 - p))) wr := by
                                  rw [show h + 1 + (0 - p) = h + 1 by omega]; exact hat
                                clear hl2 hpe hlen hRe hge xh hmin hat
                                rw [← Nat.add_assoc] at x1 xhw
                                go_wp2
                                clear x1 hqc
                                go_loopg [29, 37, 38] len2 (fun q v29 v37 v38 wr => ∃ e : Nat, e ≤ len2 ∧ q = len2 - e ∧ v37 = .int .i64 e ∧ AtP V V.heap.size n L.length (Rt.rea s c L n v h e) (Rt.sn v (h + 1 + (e - p))) v29 (Rt.qu n v (h + 1 + (e - p))) wr)
                                case atStart => exact ⟨0, Nat.zero_le _, rfl, rfl, hat6⟩
                                case round => as_aux_lemma =>
                                  clear hat6
                                  obtain ⟨e, he, rfl, rfl, hat⟩ := hrel
                                  have x1 := xhw.out wr hat.below
                                  by_cases hle : e < len2
                                  · obtain ⟨z1, z2, z3⟩ := HGE.out e hle
                                    obtain ⟨t, ht, htc⟩ := hte.out e hle
                                    rw [ht] at z1 z2
                                    have z1 := cell_keep hat.below (Nat.le_refl _) z1
                                    have z2 := cell_keep hat.below (Nat.le_refl _) z2
                                    have z3 := cell_keep hat.below (Nat.le_refl _) z3
                                    simp only at z1 z2
                                    clear ht
                                    have t4 : (e : Int) < (len2 : Int) := by omega
                                    have hatA := fun o => hat.alloc o
                                    go_upto_region 90 with (go_at_call 27; refine (edgeTo _ _ _).mono ?_; rintro e w' ⟨rfl, rfl⟩)
                                    have hat5 := hatA (.cells #[.int .i64 t, .int .i8 3, .string ⟨#[]⟩] 63)
                                    clear hatA hat z1 z2 z3 x1
                                    generalize wr.alloc _ = wx at hat5 ⊢
                                    rcases htc with ⟨hep, htn, hct, htg⟩ | ⟨hep, hee, htt, hjD⟩
                                    · have HST : Hid (∀ b, (if b = t then true else Rt.rea s c L n v h e b) = Rt.rea s c L n v h (e + 1) b) := fun b => by
                                        have hlt3 : e < (Rt.grp s c L n (v + h)).length := by rw [HP.out]; exact hep
                                        rw [List.getElem?_eq_getElem hlt3] at htg
                                        have := Rt.rea_step (s := s) (c := c) (L := L) (n := n) v h e b hlt3
                                        rw [Option.some.inj htg] at this
                                        exact this
                                      have z1 := hat5.rear.cell htn
                                      have f1 := hat5.rear.frozen t
                                      have t5 : decide ((n : Int) ≤ (t : Int)) = false := decide_eq_false (by omega)
                                      have t6 : decide (n ≤ t) = false := decide_eq_false (by omega)
                                      have t7 : (t : Int) < (n : Int) := by omega
                                      have S1 := (hat5.setRea t true).congr (rea' := Rt.rea s c L n v h (e + 1)) (sn' := Rt.sn v (h + 1 + (e + 1 - p))) (fun b _ => HST.out b) (fun j _ => by rw [show e + 1 - p = e - p by omega])
                                      rw [show h + 1 + (e - p) = h + 1 + (e + 1 - p) by omega] at S1
                                      clear htg hct HST hat5
                                      go_wp2
                                      go_roundg (len2 - (e + 1))
                                      case measure => omega
                                      case rel => exact ⟨e + 1, by omega, rfl, by go_num, S1⟩
                                    · obtain ⟨j', hj'⟩ : ∃ j', v + (h + 1) = j' := ⟨_, rfl⟩
                                      have htj : t = n + j' := by omega
                                      subst htj
                                      have hjL : j' < L.length := by omega
                                      obtain ⟨ql, hql⟩ : ∃ ql, h + 1 + (e - p) = ql := ⟨_, rfl⟩
                                      have hq1 : ql = h + 1 := by omega
                                      rw [hql] at hat5
                                      obtain ⟨aq, cq, hqv⟩ := hat5.shape
                                      subst hqv
                                      have z1 := hat5.seen.cell hjL
                                      have hsn : Rt.sn v ql j' = false := by rw [← hj', hq1]; exact Rt.sn_new v (h + 1)
                                      rw [hsn] at z1
                                      have f1 := hat5.seen.frozen j'
                                      have t5 : (n : Int) + (j' : Int) - (n : Int) = (j' : Int) := by omega
                                      have t6 : (j' : Int) < (L.length : Int) := by omega
                                      have t7 : decide ((n : Int) ≤ (n : Int) + (j' : Int)) = true := decide_eq_true (by omega)
                                      have t8 : decide (n ≤ n + j') = true := decide_eq_true (by omega)
                                      have S1 := hat5.setSeen j' true
                                      rw [Rt.qu_len] at S1
                                      have hro := S1.own
                                      rw [Rt.qu_len] at hro ⊢
                                      have hbg := hat5.big
                                      have hqb : ql ≤ 65537 := by omega
                                      have HX : Hid (ql + 1 = h + 1 + (e + 1 - p) ∧ n + j' = n + v + ql ∧ v + ql = j' ∧ p ≤ e) := ⟨by omega, by omega, by omega, by omega⟩
                                      clear hsn hq1 hql htt hj' hee hep
                                      go_wp2_with (at_builtin; refine wpList_append_lies _ rfl (.tmp 394) (.tmp 396) 59 rfl (V.heap.size + 2) 3 i3 (.int .i64 0) 1 8 Try.underlying59 hi3 hz30 hz31 hz32 rfl (by decide) (.slice aq ql cq) ql ((Rt.qu n v ql).map I) rfl (by exact hro.alloc _) ⟨wx.heap.size, 0, none⟩ 1 1 [.int .i64 ((n + j' : Nat) : Int)] rfl rfl ?h0 ?h1 (by decide) ?h2 ?h3 ?h4 (wx.heap.size + 1) (by simp) ?_)
                                      case h0 =>
                                        refine World.news_of_block (cs := #[.int .i64 ((n + j' : Nat) : Int)]) (t := 3) (fr := (0, 0)) ?_
                                        have h9 := heap_alloc_new (wx.setCell ⟨V.heap.size + 1, j', none⟩ (.bool true)) (.cells #[.int .i64 ((n + j' : Nat) : Int)] 3)
                                        simp only [World.size_setCell] at h9
                                        exact h9
                                      case h1 => intro x hx; simp at hx; subst hx; rfl
                                      case h2 => unfold maxLen; omega
                                      case h3 => omega
                                      case h4 => simp; omega
                                      intro g1 cap1 w1 hown hgrow hat1 hlt1
                                      have S2 := S1.push (x := n + j') (by rw [Rt.qu_len]; exact hown) hgrow
                                      rw [Rt.qu_len] at S2
                                      clear hown hgrow hat1 hlt1 hro z1 f1 hat5 S1
                                      go_wp2
                                      go_roundg (len2 - (e + 1))
                                      case measure => omega
                                      case rel =>
                                        obtain ⟨hx1, hx2, hx3, hx4⟩ := HX.out
                                        have hPP := HP.out
                                        refine ⟨e + 1, by omega, rfl, by go_num, ?_⟩
                                        rw [← hx1, Rt.qu_succ, ← hx2]
                                        exact S2.congr (fun b hb => by rw [Rt.rea_next v h e b hb (by omega), Rt.rea_next v h (e + 1) b hb (by omega)]) (fun j _ => by rw [← Rt.sn_step v ql j, hx3])
                                  · have : e = len2 := by omega
                                    subst this
                                    have hPP := HP.out
                                    have hLL := HLEN.out
                                    have hq := Rt.qlen_next L.length v h p e hlh hLL
                                    have S1 := hat.congr (rea' := Rt.rea s c L n v (h + 1) 0) (sn' := Rt.sn v (min (h + 1 + 1) (L.length - v))) (fun b hb => Rt.rea_next v h e b hb (by rw [hPP, hLL]; omega)) (fun j _ => by rw [hq])
                                    rw [hq] at S1
                                    clear hLL hPP hq hat hle
                                    go_wp2
                                    go_roundg (L.length - v - (h + 1))
                                    case measure => omega
                                    case rel => exact ⟨h + 1, by omega, rfl, by go_num, S1⟩
                              · have hhe : h = L.length - v := by omega
                                have hmin : min (h + 1) (L.length - v) = h := by omega
                                rw [hmin] at hat
                                have S1 := hat.congr (rea' := fun b => c b && decide (f a < s b)) (sn' := Rt.sn v h) (fun b hb => by
                                  have := TM.out.rea_end (f a) b hb
                                  rw [HV.out, ← hhe] at this
                                  exact this) (fun j _ => rfl)
                                obtain ⟨aq, cq, hqv⟩ := S1.shape
                                subst hqv
                                rw [Rt.qu_len] at S1 ⊢
                                clear hat hmin hhe
                                have t5 : decide ((h : Int) < (h : Int)) = false := decide_eq_false (by omega)
                                go_wp2
                                go_loopg [39, 40] n (fun q v39 v40 wr => ∃ b : Nat, b ≤ n ∧ q = n - b ∧ v39 = .int .i64 b ∧ AtP V V.heap.size n L.length (fun b => c b && decide (f a < s b)) (Rt.sn v h) (.slice aq h cq) (Rt.qu n v h) wr)
                                case atStart => exact ⟨0, Nat.zero_le _, rfl, rfl, S1⟩
                                case round => as_aux_lemma =>
                                  clear S1
                                  obtain ⟨b, hb, rfl, rfl, hat⟩ := hrel
                                  by_cases hlb : b < n
                                  · obtain ⟨r4, r2, _⟩ := HYV.out b hlb
                                    obtain ⟨_, _, r3⟩ := HYV.out a hlt
                                    have r4 := cell_keep hat.below (Nat.le_refl _) r4
                                    have r2 := cell_keep hat.below (Nat.le_refl _) r2
                                    have r3 := cell_keep hat.below (Nat.le_refl _) r3
                                    have z1 := hat.rear.cell hlb
                                    have t6 : (b : Int) < (n : Int) := by omega
                                    cases hcb : c b with
                                    | false =>
                                      simp [hcb] at r4 z1
                                      go_upto_region 98 with fail
                                      go_quiet (fail)
                                      go_wp2
                                      go_roundg (n - (b + 1))
                                      case measure => omega
                                      case rel => exact ⟨b + 1, by omega, rfl, by go_num, hat.drewN _⟩
                                    | true =>
                                      simp [hcb] at r4 z1
                                      by_cases hfs : f a < s b
                                      · have t7 : decide (f a < s b) = true := decide_eq_true hfs
                                        rw [t7] at z1
                                        go_upto_region 98 with fail
                                        go_quiet (fail)
                                        go_wp2
                                        go_roundg (n - (b + 1))
                                        case measure => omega
                                        case rel => exact ⟨b + 1, by omega, rfl, by go_num, hat.drewN _⟩
                                      · have t7 : decide (f a < s b) = false := decide_eq_false hfs
                                        rw [t7] at z1
                                        go_upto_region 98 with fail
                                        go_quiet (fail)
                                        go_wp2
                                        go_roundg (n - (b + 1))
                                        case measure => omega
                                        case rel => exact ⟨b + 1, by omega, rfl, by go_num, hat.drewN _⟩
                                  · have : n = b := by omega
                                    subst this
                                    go_wp2
                                    go_roundg (n - (a + 1))
                                    case measure => omega
                                    case rel => exact ⟨a + 1, _, _, _, by omega, rfl, by go_num, hat⟩
            · have : n = a := by omega
              subst this
              go_wp2
              go_ret
              exact ⟨rfl, hbV.trans (hat.below.mono hbV.size)⟩

end Go.Proofs.Qxb6600569a
