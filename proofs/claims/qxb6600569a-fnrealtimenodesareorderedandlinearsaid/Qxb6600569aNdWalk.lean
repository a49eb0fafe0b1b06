/-
  'FnRealTimeNodesAreOrderedAndLinear' walked.
-/
import Derived.Test.Qxb6600569aRtStarts
import Derived.Test.Qxb6600569aRtNode
import Derived.Deep.QuietTactic
import Derived.BigQuiet
namespace Go.Proofs.Qxb6600569a
open Go.RowKit
set_option linter.unusedVariables false

structure TrueR (w : World) (e : Ending) (w' : World) : Prop where
  ret : e = .returned (.bool true)
  below : Below w.heap.size w w'

/-- What the reading of the three slices is good for. -/
structure Three (w : World) (a1 a2 a3 : Option Addr) (l1 l2 l3 c1 c2 c3 : Nat) (s f : Nat → Int) (ab : Nat → Bool) : Prop where
  r1 : Rd w a1 l1 (fun j => .int .i64 (s j))
  r2 : Rd w a2 l2 (fun j => .int .i64 (f j))
  r3 : Rd w a3 l3 (fun j => .bool (ab j))
  n1 : a1 = none → l1 = 0 ∧ c1 = 0
  n2 : a2 = none → l2 = 0 ∧ c2 = 0
  n3 : a3 = none → l3 = 0 ∧ c3 = 0

/-- The law's two tallies in memory. -/
structure AtN (W : World) (H n D : Nat) (ns ic : Nat → Int) (wr : World) : Prop where
  nodes : wr.rowIs H 2 D (fun i => .int .i64 (ns i))
  incs : wr.rowIs (H + 1) 3 n (fun a => .int .i64 (ic a))
  below : Below H W wr

section
variable {W wr : World} {H n D : Nat} {ns ic : Nat → Int}
theorem AtN.big (h : AtN W H n D ns ic wr) : H + 2 ≤ wr.heap.size := h.incs.lt
theorem AtN.alloc (h : AtN W H n D ns ic wr) (o : Obj) : AtN W H n D ns ic (wr.alloc o) := ⟨h.nodes.alloc o, h.incs.alloc o, h.below.alloc (by have := h.big; omega) o⟩
theorem AtN.drewN (h : AtN W H n D ns ic wr) (q : Nat) : AtN W H n D ns ic (wr.drewN q) := ⟨h.nodes, h.incs, ⟨h.below.os, h.below.tape, h.below.output, h.below.size, h.below.block⟩⟩
theorem AtN.setNode (h : AtN W H n D ns ic wr) (j : Nat) (x : Int) : AtN W H n D (fun i => if i = j then x else ns i) ic (wr.setCell ⟨H, j, none⟩ (.int .i64 x)) :=
  ⟨(h.nodes.set j _).congr fun i _ => by split <;> rfl, h.incs.setOther (by simp) _, h.below.setCell (Nat.le_refl _) _⟩
theorem AtN.setInc (h : AtN W H n D ns ic wr) (j : Nat) (x : Int) : AtN W H n D ns (fun i => if i = j then x else ic i) (wr.setCell ⟨H + 1, j, none⟩ (.int .i64 x)) :=
  ⟨h.nodes.setOther (by simp) _, (h.incs.set j _).congr fun i _ => by split <;> rfl, h.below.setCell (by simp) _⟩
theorem AtN.congr (h : AtN W H n D ns ic wr) {ns' ic' : Nat → Int} (e1 : ∀ i, i < D → ns i = ns' i) (e2 : ∀ a, a < n → ic a = ic' a) : AtN W H n D ns' ic' wr :=
  ⟨h.nodes.congr fun i hi => by rw [e1 i hi], h.incs.congr fun i hi => by rw [e2 i hi], h.below⟩
end

theorem Rt.edge_cells (L : List (Nat × Int)) : ∀ k j, k < L.length → j < 3 → (L.flatMap edgeCells)[k * 3 + j]? = (edgeCells (L.getD k (0, 0)))[j]? := by
  induction L with
  | nil => intro k j h; simp at h
  | cons e L ih =>
    intro k j hk hj
    cases k with
    | zero =>
      rw [List.flatMap_cons, List.getElem?_append_left (by simp [edgeCells]; omega)]
      simp
    | succ k =>
      rw [List.flatMap_cons, List.getElem?_append_right (by simp [edgeCells]; omega), show (k + 1) * 3 + j - (edgeCells e).length = k * 3 + j by simp [edgeCells]; omega, ih k j (by simpa using hk) hj]
      simp

/-- The three cells of an edge of a graph in memory. -/
theorem fam_edge {w : World} {base b M : Nat} {R : Nat → Value} {E : Nat → List (Nat × Int)} (h : Fam w base b 60 63 3 M R (fun u => (E u).length) (fun u => (E u).flatMap edgeCells)) {u : Nat} (hu : u < M) (hl : 0 < (E u).length) :
    ∃ g cap, R u = .slice (some ⟨g, 0, none⟩) (E u).length cap ∧ ∀ k, k < (E u).length → w.cell? ⟨g, k * 3, none⟩ = some (.int .i64 ((E u).getD k (0, 0)).1) ∧ w.cell? ⟨g, k * 3 + 1, none⟩ = some (.int .i8 ((E u).getD k (0, 0)).2) ∧ w.cell? ⟨g, k * 3 + 2, none⟩ = some (.string ⟨#[]⟩) := by
  obtain ⟨g, cap, e, _, hc⟩ := h.cells hu hl
  refine ⟨g, cap, e, fun k hk => ?_⟩
  have := Rt.edge_cells (E u) k
  refine ⟨?_, ?_, ?_⟩
  · rw [hc (k * 3) (by omega)]; exact this 0 hk (by omega)
  · rw [hc (k * 3 + 1) (by omega)]; exact this 1 hk (by omega)
  · rw [hc (k * 3 + 2) (by omega)]; exact this 2 hk (by omega)

set_option maxHeartbeats 4000000 in
set_option maxRecDepth 100000 in
theorem nd_main (a1 a2 a3 : Option Addr) (l1 l2 l3 c1 c2 c3 : Nat) (s f : Nat → Int) (ab : Nat → Bool) (w : World) (h1 : l1 ≤ 65536) (h2 : l2 ≤ 65536) (h3 : l3 ≤ 65536) (hF : Three w a1 a2 a3 l1 l2 l3 c1 c2 c3 s f ab) :
    Calls Try.prog 6 #[.slice a1 l1 c1, .slice a2 l2 c2, .slice a3 l3 c3] w (TrueR w) := by
  have d1 : decide ((65536 : Int) < (l1 : Int)) = false := decide_eq_false (by omega)
  have d2 : decide ((65536 : Int) < (l2 : Int)) = false := decide_eq_false (by omega)
  have d3 : decide ((65536 : Int) < (l3 : Int)) = false := decide_eq_false (by omega)
  go_enter Try.func6, Try.ntmps6
  go_wp2_with fail
  refine (bytes_nodes a1 a2 a3 l1 c1 l2 c2 l3 c3 w (by unfold maxLen; omega) (by unfold maxLen; omega) (by unfold maxLen; omega)).mono ?_
  rintro e w' ⟨rfl, rfl⟩
  cases hbb : decide (l1 + l2 + l3 ≤ 1048576)
  · go_wp2
    go_ret
    exact ⟨rfl, Below.refl _ _⟩
  by_cases htb : 1048576 < 8 * l1 + 8 * l2 + l3
  · have dt : decide ((1048576 : Int) < 8 * (l1 : Int) + 8 * (l2 : Int) + (l3 : Int)) = true := decide_eq_true (by omega)
    go_wp2
    go_ret
    exact ⟨rfl, Below.refl _ _⟩
  have dt : decide ((1048576 : Int) < 8 * (l1 : Int) + 8 * (l2 : Int) + (l3 : Int)) = false := decide_eq_false (by omega)
  clear hbb htb
  have HF : Hid (Three w' a1 a2 a3 l1 l2 l3 c1 c2 c3 s f ab) := hF
  clear hF
  go_wp2_with fail
  refine (copyI64 a1 l1 c1 s w' h1 HF.out.n1 HF.out.r1).mono ?_
  rintro e w1 ⟨⟨p1, q1, rfl, k1⟩, g1⟩
  go_wp2_with fail
  refine (copyI64 a2 l2 c2 f w1 h2 HF.out.n2 (HF.out.r2.keep g1 (Nat.le_refl _))).mono ?_
  rintro e w2 ⟨⟨p2, q2, rfl, k2⟩, g2⟩
  go_wp2_with fail
  refine (copyBool a3 l3 c3 ab w2 h3 HF.out.n3 ((HF.out.r3.keep g1 (Nat.le_refl _)).keep g2 (Nat.le_refl _))).mono ?_
  rintro e w3 ⟨⟨p3, q3, rfl, k3⟩, g3⟩
  obtain ⟨n, hn⟩ : ∃ n, n = min l1 (min l2 l3) := ⟨_, rfl⟩
  have hn6 : n ≤ 65536 := by omega
  have qT := rtTxns p1 p2 p3 l1 q1 l2 q2 l3 q3 n s f ab w3 hn hn6 h1 h2 h3 ((k1.keep g2 (Nat.le_refl _)).keep g3 (Nat.le_refl _)) (k2.keep g3 (Nat.le_refl _)) k3
  have b3 : Below w'.heap.size w' w3 := (g1.trans (g2.mono g1.size)).trans (g3.mono (Nat.le_trans g1.size g2.size))
  clear k1 k2 k3 g1 g2 g3 hn HF
  have hmk := run_make_row' (P := Try.prog) 54 60 (.slice none 0 0) 24 Try.underlying54 Try.info60 rfl .i64 .i64 n (by omega) (by omega)
  go_upto_region 13 with (go_at_call 22; refine qT.mono ?_; rintro e w4 ⟨rfl, hrow, hb4⟩)
  clear qT hmk
  have hT3 : w3.heap.size < w4.heap.size := hrow.lt
  have hG : ∀ o, GraphIs ((w4.alloc (Obj.cells (madeCells #[Value.slice none 0 0] n) 60)).alloc o) w4.heap.size w4.heap.size n (fun _ => []) := fun o => ⟨_, ((Fam.made w4 w4.heap.size 60 63 3 n (Nat.le_refl _)).congr (fun _ _ => rfl) (fun _ _ => rfl) (fun _ _ => rfl)).alloc o⟩
  have hXc : ∀ o t, ((w4.alloc (Obj.cells (madeCells #[Value.slice none 0 0] n) 60)).alloc (.cells o t)).cell? ⟨w4.heap.size + 1, 0, none⟩ = o[0]? := fun o t => by
    have := Rt.cell_new (w4.alloc (Obj.cells (madeCells #[Value.slice none 0 0] n) 60)) o t 0
    rw [World.size_alloc] at this
    exact this
  have qR := fun o t (ho : o[0]? = some (Value.slice (some ⟨w3.heap.size, 0, none⟩) n n)) => realZ w4.heap.size (w4.heap.size + 1) w3.heap.size w4.heap.size n s f (fun i => !ab i) (fun _ => []) ((w4.alloc (Obj.cells (madeCells #[Value.slice none 0 0] n) 60)).alloc (.cells o t)) hn6 ((hXc o t).trans ho) ((hrow.alloc _).alloc _) hT3 (hG _) (fun _ => by simp)
  have qI := newIndex w3.heap.size n n
  go_upto_region 14 with (first
    | (go_at_call 25; refine (qI _).mono ?_; rintro e w5 ⟨rfl, rfl⟩)
    | (go_at_call 24; refine (qR _ _ rfl).mono ?_; rintro e W ⟨⟨b', cap, M, rfl, hM, hgraph⟩, hb5⟩))
  have hbW : Below w'.heap.size w' W := by
    have e1 := hrow.lt
    have e2 := b3.size
    have e3 := (b3.trans (hb4.mono b3.size)).alloc (by omega) (Obj.cells (madeCells #[Value.slice none 0 0] n) 60)
    exact (e3.alloc (by simp; omega) _).trans (hb5.mono (by omega))
  have hTW : W.rowIs w3.heap.size 40 (n * 6) (wide 6 (rtAll s f (fun i => !ab i))) := ((hrow.alloc _).alloc _).of_block (hb5.block _ hT3)
  have hbs : w4.heap.size ≤ W.heap.size := Nat.le_trans (by simp; omega) hb5.size
  clear hG hXc qR qI hrow hb4 hb5 b3
  have tm := Rt.times_tm s (fun i => !ab i) n
  generalize Rt.times s (fun i => !ab i) n = L at hM hgraph tm ⊢
  generalize (fun i => !ab i) = c at hgraph hTW tm
  have hD := tm.len
  have TM : Hid (Rt.Tm s c n L) := tm
  have HT : Hid (W.rowIs w3.heap.size 40 (n * 6) (wide 6 (rtAll s f c))) := hTW
  obtain ⟨R, hfam⟩ := hgraph.fam
  have hmk2 := run_make_row' (P := Try.prog) 25 2 (.int .i64 0) 8 Try.underlying25 Try.info2 rfl .i64 .i64 L.length (by omega) (by omega)
  have hmk3 := run_make_row' (P := Try.prog) 59 3 (.int .i64 0) 8 Try.underlying59 Try.info3 rfl .i64 .i64 n (by omega) (by omega)
  have t1 : decide ((n : Int) + (L.length : Int) < (n : Int)) = false := decide_eq_false (by omega)
  have t2 : (n : Int) + (L.length : Int) - (n : Int) = (L.length : Int) := by omega
  have t3 : decide ((n : Int) < (L.length : Int)) = false := decide_eq_false (by omega)
  have t4 : decide (n < L.length) = false := decide_eq_false (by omega)
  have t5 : decide (n + L.length < n) = false := decide_eq_false (by omega)
  have hT3' : w3.heap.size < W.heap.size := by omega
  obtain ⟨T, hTe⟩ : ∃ T, w3.heap.size = T := ⟨_, rfl⟩
  rw [hTe] at HT hTW hT3' ⊢
  clear hTe hT3 tm hTW
  have S0 : AtN W W.heap.size n L.length (Rt.nst L 0 0) (Rt.inc s c L n 0 0) ((W.alloc (Obj.cells (madeCells #[Value.int IntKind.i64 0] L.length) 2)).alloc (Obj.cells (madeCells #[Value.int IntKind.i64 0] n) 3)) := by
    have e2 := World.rowIs_made (W.alloc (Obj.cells (madeCells #[Value.int IntKind.i64 0] L.length) 2)) (.int .i64 0) n 3
    rw [World.size_alloc] at e2
    refine ⟨((World.rowIs_made W (.int .i64 0) L.length 2).congr fun i _ => ?_).alloc _, e2.congr fun a _ => ?_, ((Below.refl _ _).alloc (Nat.le_refl _) _).alloc (by simp) _⟩
    · simp [Rt.nst]
    · simp [Rt.inc]
  go_wp2
  clear hmk2 hmk3 t1 t2 t3 t4 t5
  generalize ((W.alloc (Obj.cells (madeCells #[Value.int IntKind.i64 0] L.length) 2)).alloc (Obj.cells (madeCells #[Value.int IntKind.i64 0] n) 3)) = W0 at S0 ⊢
  go_loopg [14, 15, 16, 17, 18, 19, 20] L.length (fun q v14 v15 v16 v17 v18 v19 v20 wr => ∃ m : Nat, m ≤ L.length ∧ q = L.length - m ∧ v14 = .int .i64 m ∧ AtN W W.heap.size n L.length (Rt.nst L m 0) (Rt.inc s c L n m 0) wr)
  case atStart => exact ⟨0, Nat.zero_le _, rfl, rfl, S0⟩
  case round =>
    clear S0
    obtain ⟨m, hm, rfl, rfl, hat⟩ := hrel
    by_cases hlt : m < L.length
    · have hru : n + m < M := by omega
      have hp := TM.out.some hlt
      have hlen := Rt.time_len (n := n) (s := s) (f := f) (c := c) (L := L) (G := fun _ => []) m hlt
      obtain ⟨g, gc, hRe, hge⟩ := fam_edge hfam hru (by omega)
      have hE1 : ∀ k, k < (Rt.grp s c L n m).length → (Rt.rowsEnd n s f c L (fun _ => []) (L.length - 1) (n + m)).getD k (0, 0) = ((Rt.grp s c L n m)[k]!, 3) := fun k hk => by
        have hk' : k < (Rt.rowsEnd n s f c L (fun _ => []) (L.length - 1) (n + m)).length := by omega
        rw [List.getD_eq_getElem?_getD, List.getElem?_eq_getElem hk', Rt.time_edge m k hlt hk, getElem!_pos (Rt.grp s c L n m) k hk]; rfl
      have hE2 : ∀ k, k < (Rt.rowsEnd n s f c L (fun _ => []) (L.length - 1) (n + m)).length → ¬ k < (Rt.grp s c L n m).length → (Rt.rowsEnd n s f c L (fun _ => []) (L.length - 1) (n + m)).getD k (0, 0) = (n + m + 1, 3) ∧ k = (Rt.grp s c L n m).length ∧ m + 1 < L.length := fun k hk' hk => by
        have := Rt.time_chain (n := n) (s := s) (f := f) (c := c) (L := L) (G := fun _ => []) m k hlt hk hk'
        rw [List.getD_eq_getElem?_getD, List.getElem?_eq_getElem hk']
        exact this
      have xh := hfam.row.cell hru
      rw [hRe] at xh
      have xh' := cell_keep hat.below (Nat.le_refl _) xh
      generalize Rt.rowsEnd n s f c L (fun _ => []) (L.length - 1) (n + m) = ES at hlen hge hE1 hE2 xh' hRe
      obtain ⟨len, hl⟩ : ∃ len, ES.length = len := ⟨_, rfl⟩
      obtain ⟨p, hpe⟩ : ∃ p, (Rt.grp s c L n m).length = p := ⟨_, rfl⟩
      rw [hl] at hlen hge xh' hE2
      rw [hpe] at hlen hp hE1 hE2
      have HLEN : Hid (len = p + if m + 1 < L.length then 1 else 0) := hlen
      have HL : Hid (ES.length = len) := hl
      have HP : Hid ((Rt.grp s c L n m).length = p) := hpe
      have hpn : p ≤ n := by rw [← hpe]; exact Rt.grp_len m
      have hlp : len ≤ p + 1 := by rw [hlen]; split <;> omega
      have hpl : p ≤ len := by rw [hlen]; split <;> omega
      clear hl hpe hlen xh hRe
      have u1 : (0 : Int) ≤ (n : Int) + (m : Int) := by omega
      have u2 : (n : Int) + (m : Int) < (n : Int) + (L.length : Int) := by omega
      have u3 : n + m < n + L.length := by omega
      go_wp2
      go_loopg [16, 17, 18, 19, 20] len (fun q v16 v17 v18 v19 v20 wr => ∃ k : Nat, k ≤ len ∧ q = len - k ∧ v16 = .int .i64 ((min k p : Nat) : Int) ∧ v17 = .int .i64 ((k - p : Nat) : Int) ∧ v18 = .int .i64 k ∧ AtN W W.heap.size n L.length (Rt.nst L m k) (Rt.inc s c L n m k) wr)
      case atStart => exact ⟨0, Nat.zero_le _, rfl, by simp, by simp, rfl, hat⟩
      case round =>
        clear hat xh'
        obtain ⟨k, hk, rfl, rfl, rfl, rfl, hat⟩ := hrel
        have hbig := hat.big
        by_cases hlk : k < len
        · obtain ⟨e1, e2, e3⟩ := hge k hlk
          have he : ES.getD k (0, 0) = ((ES.getD k (0, 0)).1, 3) := by
            by_cases hkp : k < p
            · rw [hE1 k hkp]
            · rw [(hE2 k hlk hkp).1]
          have x1 := cell_keep hat.below (Nat.le_refl _) e1
          have x2 := cell_keep hat.below (Nat.le_refl _) e2
          have x3 := cell_keep hat.below (Nat.le_refl _) e3
          rw [he] at x2
          obtain ⟨t, ht⟩ : ∃ t, (ES.getD k (0, 0)).1 = t := ⟨_, rfl⟩
          rw [ht] at x1
          have HTT : Hid ((ES.getD k (0, 0)).1 = t) := ht
          clear e1 e2 e3 he ht
          have i1 : (k : Int) < (len : Int) := by omega
          have hatA := fun o1 o2 o3 => ((hat.alloc o1).alloc o2).alloc o3
          go_upto_region 34 with (first
            | (go_at_call 28; refine (edgeKind _ _ _).mono ?_; rintro e w' ⟨rfl, rfl⟩)
            | (go_at_call 27; refine (edgeTo _ _ _).mono ?_; rintro e w' ⟨rfl, rfl⟩))
          have hat3 := hatA (.cells #[.int .i64 t, .int .i8 3, .string ⟨#[]⟩] 63) (.cells #[.int .i64 t, .int .i8 3, .string ⟨#[]⟩] 63) (.cells #[.int .i64 t, .int .i8 3, .string ⟨#[]⟩] 63)
          clear hatA x1 x2 x3 hat hbig
          generalize ((wr.alloc _).alloc _).alloc _ = wx at hat3 ⊢
          have hTr := HT.out.of_block (hat3.below.block T hT3')
          by_cases hkp : k < p
          · have hgk : k < (Rt.grp s c L n m).length := by rw [HP.out]; exact hkp
            have hte := HTT.out
            rw [hE1 k hkp] at hte
            have hte' : (Rt.grp s c L n m)[k] = t := by rw [← getElem!_pos (Rt.grp s c L n m) k hgk]; exact hte
            have hmem : t ∈ Rt.grp s c L n m := by rw [← hte']; exact List.getElem_mem hgk
            have hz : Rt.inc s c L n m k t = 0 := by rw [← hte']; exact Rt.inc_zero m k hgk
            have hstep : Hid (∀ a, (if a = t then (1 : Int) else Rt.inc s c L n m k a) = Rt.inc s c L n m (k + 1) a) := fun a => by rw [← hte']; exact Rt.inc_step m k a hgk
            have hst := TM.out.start hmem
            obtain ⟨htn, hct, _⟩ := (Rt.mem_grp _ _).1 hmem
            have y2 := rowIs_cellAt hTr htn (j := 2) (by omega)
            have y4 := rowIs_cellAt hTr htn (j := 4) (by omega)
            simp [rtAll, rtCell, hct] at y2 y4
            rw [hst] at y2
            have z1 := hat3.nodes.cell hlt
            have z2 := hat3.incs.cell htn
            rw [hz] at z2
            have f1 := hat3.nodes.frozen m
            have f2 := hat3.incs.frozen t
            have v1 : decide ((t : Int) < (n : Int)) = true := decide_eq_true (by omega)
            have v2 : decide ((n : Int) ≤ (t : Int)) = false := decide_eq_false (by omega)
            have v3 : decide ((t : Int) < 0) = false := decide_eq_false (by omega)
            have v4 : (m : Int) < (L.length : Int) := by omega
            have em : min k p = k := by omega
            have ek : k - p = 0 := by omega
            have ek' : k + 1 - p = 0 := by omega
            have em' : min (k + 1) p = k + 1 := by omega
            have EM : Hid (min (k + 1) p = k + 1 ∧ k + 1 - p = 0) := ⟨em', ek'⟩
            rw [em, ek]
            clear hmem hz hst hct hTr hgk hte hte' em ek ek' em'
            by_cases h0 : k = 0
            · subst h0
              go_wp2
              go_roundg (len - (0 + 1))
              case measure => omega
              case rel =>
                refine ⟨0 + 1, by omega, rfl, by rw [EM.out.1]; go_num, by rw [EM.out.2], by go_num, ?_⟩
                exact ((hat3.setNode m (Rt.lat L m)).setInc t 1).congr (fun i _ => Rt.nst_first m i) (fun a _ => hstep.out a)
            · have hk0 : 0 < k := by omega
              rw [Rt.nst_at m k hk0] at z1
              have v5 : decide ((k : Int) = 0) = false := decide_eq_false (by omega)
              have v6 : decide (k = 0) = false := decide_eq_false (by omega)
              go_upto_region 42 with fail
              go_quiet (fail)
              go_wp2
              go_roundg (len - (k + 1))
              case measure => omega
              case rel =>
                refine ⟨k + 1, by omega, rfl, by rw [EM.out.1]; go_num, by rw [EM.out.2], by go_num, ?_⟩
                exact ((hat3.drewN nq).setInc t 1).congr (fun i _ => by rw [Rt.nst_more m k hk0]) (fun a _ => hstep.out a)
          · obtain ⟨hte, hkp', hm1⟩ := hE2 k hlk hkp
            have hte2 := HTT.out
            rw [hte] at hte2
            have hte3 : t = n + m + 1 := hte2.symm
            subst hte3
            have v1 : decide ((n : Int) ≤ ((n + m + 1 : Nat) : Int)) = true := decide_eq_true (by omega)
            have v2 : decide ((n : Int) ≤ (n : Int) + (m : Int) + 1) = true := decide_eq_true (by omega)
            have v3 : decide (n ≤ n + m + 1) = true := decide_eq_true (by omega)
            have v4 : decide ((n : Int) + (L.length : Int) ≤ (n : Int) + (m : Int) + 1) = false := decide_eq_false (by omega)
            have v5 : decide (n + L.length ≤ n + m + 1) = false := decide_eq_false (by omega)
            have EM : Hid (min (k + 1) p = p ∧ k + 1 - p = 1 ∧ p = k) := ⟨by omega, by omega, by omega⟩
            have hk0 : 0 < k := by omega
            have em : min k p = p := by omega
            rw [em]
            clear hTr hte hte2 HTT hkp em
            go_wp2
            go_roundg (len - (k + 1))
            case measure => omega
            case rel =>
              have hpk := EM.out.2.2
              have hPL := HP.out
              refine ⟨k + 1, by omega, rfl, by rw [EM.out.1], by rw [EM.out.2.1]; rfl, by rw [hpk]; go_num, ?_⟩
              exact hat3.congr (fun i _ => by rw [Rt.nst_more m k hk0]) (fun a ha => by rw [Rt.inc_next m k a ha (by omega), Rt.inc_next m (k + 1) a ha (by omega)])
        · have : k = len := by omega
          subst this
          have hLEN := HLEN.out
          have hPL := HP.out
          have em : min k p = p := by omega
          have hk0 : 0 < k := by omega
          have HN := fun q => (hat.drewN q).congr (ns' := Rt.nst L (m + 1) 0) (ic' := Rt.inc s c L n (m + 1) 0) (fun i _ => by rw [Rt.nst_next m k hk0]) (fun a ha => by rw [Rt.inc_next m k a ha (by omega)])
          rw [em]
          have w1' : decide ((p : Int) = 0) = false := decide_eq_false (by omega)
          have w2' : decide (p = 0) = false := decide_eq_false (by omega)
          have w3' : decide ((k : Int) < (k : Int)) = false := decide_eq_false (by omega)
          have w4' : p ≠ 0 := by omega
          clear hE1 hE2 hge em hlk hk HLEN HL HP
          have hch : Hid (m + 1 < L.length → k - p = 1) := fun h => by rw [if_pos h] at hLEN; omega
          clear hLEN hPL
          have zz : Hid (∀ i, i ≤ m → wr.cell? ⟨W.heap.size, i, none⟩ = some (.int .i64 (Rt.lat L i))) := fun i hi => by
            rw [hat.nodes.cell (by omega)]
            by_cases e : i = m
            · subst e; rw [Rt.nst_at i k hk0]
            · rw [Rt.nst_old m k i (by omega)]
          obtain ⟨kp, hkp⟩ : ∃ kp, k - p = kp := ⟨_, rfl⟩
          rw [hkp] at hch ⊢
          clear hkp
          have hrise := fun a (h : a < m) => TM.out.rise h hlt
          by_cases hm1 : m + 1 < L.length
          · have hkp1 := hch.out hm1
            subst hkp1
            have s1 : decide ((m : Int) + 1 < (L.length : Int)) = true := decide_eq_true (by omega)
            have s2 : decide (m + 1 < L.length) = true := decide_eq_true (by omega)
            cases m with
            | zero =>
              go_upto_region 50 with fail
              go_quiet (fail)
              go_wp2
              go_roundg (L.length - (0 + 1))
              case measure => omega
              case rel => exact ⟨0 + 1, by omega, rfl, by go_num, HN _⟩
            | succ m' =>
              have z1 := zz.out m' (by omega)
              have z2 := zz.out (m' + 1) (by omega)
              have hr := hrise m' (by omega)
              have s3 : decide ((0 : Int) < ((m' + 1 : Nat) : Int)) = true := decide_eq_true (by omega)
              have s4 : decide ((0 : Int) < (m' : Int) + 1) = true := decide_eq_true (by omega)
              have s5 : decide (Rt.lat L (m' + 1) ≤ Rt.lat L m') = false := decide_eq_false (by omega)
              have s6 : (m' : Int) + 1 - 1 = (m' : Int) := by omega
              have s7 : (m' : Int) < (L.length : Int) := by omega
              have s8 : (m' : Int) + 1 < (L.length : Int) := by omega
              have s9 : m' < L.length := by omega
              go_upto_region 50 with fail
              go_quiet (fail)
              go_wp2
              go_roundg (L.length - (m' + 1 + 1))
              case measure => omega
              case rel => exact ⟨m' + 1 + 1, by omega, rfl, by go_num, HN _⟩
          · have s1 : decide ((m : Int) + 1 < (L.length : Int)) = false := decide_eq_false (by omega)
            have s2 : decide (m + 1 < L.length) = false := decide_eq_false (by omega)
            cases m with
            | zero =>
              go_upto_region 50 with fail
              go_quiet (fail)
              go_wp2
              go_roundg (L.length - (0 + 1))
              case measure => omega
              case rel => exact ⟨0 + 1, by omega, rfl, by go_num, HN _⟩
            | succ m' =>
              have z1 := zz.out m' (by omega)
              have z2 := zz.out (m' + 1) (by omega)
              have hr := hrise m' (by omega)
              have s3 : decide ((0 : Int) < ((m' + 1 : Nat) : Int)) = true := decide_eq_true (by omega)
              have s4 : decide ((0 : Int) < (m' : Int) + 1) = true := decide_eq_true (by omega)
              have s5 : decide (Rt.lat L (m' + 1) ≤ Rt.lat L m') = false := decide_eq_false (by omega)
              have s6 : (m' : Int) + 1 - 1 = (m' : Int) := by omega
              have s7 : (m' : Int) < (L.length : Int) := by omega
              have s8 : (m' : Int) + 1 < (L.length : Int) := by omega
              have s9 : m' < L.length := by omega
              go_upto_region 50 with fail
              go_quiet (fail)
              go_wp2
              go_roundg (L.length - (m' + 1 + 1))
              case measure => omega
              case rel => exact ⟨m' + 1 + 1, by omega, rfl, by go_num, HN _⟩
    · have : m = L.length := by omega
      subst this
      clear hlt hm
      have hat2 : AtN W W.heap.size n L.length (Rt.lat L) (fun a => if c a = true then 1 else 0) wr := hat.congr (fun i hi => by rw [Rt.nst_old _ _ _ hi]) (fun a ha => TM.out.inc_end a ha)
      clear hat
      go_wp2
      go_loopg [21, 22, 23, 24] n (fun q v21 v22 v23 v24 wr => ∃ a : Nat, a ≤ n ∧ q = n - a ∧ v21 = .int .i64 a ∧ AtN W W.heap.size n L.length (Rt.lat L) (fun a => if c a = true then 1 else 0) wr)
      case atStart => exact ⟨0, Nat.zero_le _, rfl, rfl, hat2⟩
      case round =>
        clear hat2
        obtain ⟨a, ha, rfl, rfl, hat⟩ := hrel
        by_cases hlt : a < n
        · have hrow := Rt.end_old (n := n) (s := s) (f := f) (c := c) (L := L) (G := fun _ => []) a hlt
          have hru : a < M := by omega
          have xh := cell_keep hat.below (Nat.le_refl _) (hfam.row.cell hru)
          have hTr := HT.out.of_block (hat.below.block T hT3')
          have y3 := rowIs_cellAt hTr hlt (j := 3) (by omega)
          have y4 := rowIs_cellAt hTr hlt (j := 4) (by omega)
          simp [rtAll, rtCell] at y3 y4
          have z2 := hat.incs.cell hlt
          have i1 : (a : Int) < (n : Int) + (L.length : Int) := by omega
          have i2 : a < n + L.length := by omega
          have i3 : (a : Int) < (n : Int) := by omega
          clear hTr
          cases hc : c a with
          | false =>
            have hlen : (Rt.rowsEnd n s f c L (fun _ => []) (L.length - 1) a).length = 0 := by rw [hrow]; simp [Rt.outE, hc]
            obtain ⟨ah, ac, hRe⟩ := hfam.header hru
            rw [hRe, hlen] at xh
            simp [hc] at y4 z2
            clear hrow hRe hlen
            go_wp2
            go_roundg (n - (a + 1))
            case measure => omega
            case rel => exact ⟨a + 1, by omega, rfl, by go_num, hat⟩
          | true =>
            simp [hc] at y4 z2
            have hpl := (TM.out.place hlt hc).1
            by_cases haf : Rt.aft L (f a) < L.length
            · have hE : Rt.rowsEnd n s f c L (fun _ => []) (L.length - 1) a = [(n + Rt.aft L (f a), 3)] := by rw [hrow]; simp [Rt.outE, haf, hc]
              have hlen : (Rt.rowsEnd n s f c L (fun _ => []) (L.length - 1) a).length = 1 := by rw [hE]; rfl
              obtain ⟨g, gc, hRe, hge⟩ := fam_edge hfam hru (by omega)
              obtain ⟨e1, e2, e3⟩ := hge 0 (by omega)
              rw [hE] at e1 e2
              rw [hRe, hlen] at xh
              have x1 := cell_keep hat.below (Nat.le_refl _) e1
              have x2 := cell_keep hat.below (Nat.le_refl _) e2
              have x3 := cell_keep hat.below (Nat.le_refl _) e3
              have af1 := TM.out.after (f a)
              obtain ⟨v, hv⟩ : ∃ v, Rt.aft L (f a) = v := ⟨_, rfl⟩
              rw [hv] at haf x1 x2 af1
              simp at x1 x2 x3
              have hatA := fun o1 o2 => (hat.alloc o1).alloc o2
              have x1' : ∀ o, (wr.alloc o).cell? ⟨g, 0, none⟩ = some (.int .i64 ((n : Int) + (v : Int))) := fun o => cell_alloc_keep x1 o
              have x2' : ∀ o, (wr.alloc o).cell? ⟨g, 1, none⟩ = some (.int .i8 3) := fun o => cell_alloc_keep x2 o
              have x3' : ∀ o, (wr.alloc o).cell? ⟨g, 2, none⟩ = some (.string ⟨#[]⟩) := fun o => cell_alloc_keep x3 o
              have ev : (n : Int) + (v : Int) - (n : Int) = (v : Int) := by omega
              clear hrow hRe hlen hE e1 e2 e3 hge hv
              go_upto_region 68 with (first
                | (go_at_call 28; refine (edgeKind _ _ _).mono ?_; rintro e w' ⟨rfl, rfl⟩)
                | (go_at_call 27; refine (edgeTo _ _ _).mono ?_; rintro e w' ⟨rfl, rfl⟩))
              have hat3 := hatA (.cells #[.int .i64 ((n : Int) + (v : Int)), .int .i8 3, .string ⟨#[]⟩] 63) (.cells #[.int .i64 ((n : Int) + (v : Int)), .int .i8 3, .string ⟨#[]⟩] 63)
              clear hatA x1 x2 x3 x1' x2' x3' hat xh z2
              have y3 : ((wr.alloc (.cells #[.int .i64 ((n : Int) + (v : Int)), .int .i8 3, .string ⟨#[]⟩] 63)).alloc (.cells #[.int .i64 ((n : Int) + (v : Int)), .int .i8 3, .string ⟨#[]⟩] 63)).cell? ⟨T, a * 6 + 3, none⟩ = some (.int .i64 (f a)) := cell_alloc_keep (cell_alloc_keep y3 _) _
              generalize (wr.alloc _).alloc _ = wx at hat3 y3 ⊢
              have t1 : decide ((v : Int) < 0) = false := decide_eq_false (by omega)
              have t2 : decide ((L.length : Int) ≤ (v : Int)) = false := decide_eq_false (by omega)
              have t3 : decide (L.length ≤ v) = false := decide_eq_false (by omega)
              have t4 : (v : Int) < (L.length : Int) := by omega
              cases v with
              | zero =>
                have hle : ¬ Rt.lat L 0 ≤ f a := fun h => by have := (af1 0 haf).1 h; omega
                have z1 := hat3.nodes.cell haf
                have s1 : decide (Rt.lat L 0 ≤ f a) = false := decide_eq_false hle
                have s2 : decide ((L.length : Int) ≤ 0) = false := decide_eq_false (by omega)
                have s3 : decide (L.length ≤ 0) = false := decide_eq_false (by omega)
                have s4 : ¬ L.length = 0 := by omega
                have s5 : decide (L.length = 0) = false := decide_eq_false (by omega)
                have s6 : ¬ L = [] := fun e => by rw [e] at haf; simp at haf
                have s7 : decide (L = []) = false := decide_eq_false s6
                go_upto_region 70 with fail
                go_quiet (fail)
                go_upto_region 72 with fail
                go_quiet (fail)
                go_wp2
                go_roundg (n - (a + 1))
                case measure => omega
                case rel => exact ⟨a + 1, by omega, rfl, by go_num, hat3.drewN _⟩
              | succ v' =>
                have hle : ¬ Rt.lat L (v' + 1) ≤ f a := fun h => by have := (af1 (v' + 1) haf).1 h; omega
                have hle2 : Rt.lat L v' ≤ f a := (af1 v' (by omega)).2 (by omega)
                have z1 := hat3.nodes.cell haf
                have z3 := hat3.nodes.cell (i := v') (by omega)
                have s1 : decide (Rt.lat L (v' + 1) ≤ f a) = false := decide_eq_false hle
                have s2 : decide (f a < Rt.lat L v') = false := decide_eq_false (by omega)
                have s3 : (v' : Int) + 1 - 1 = (v' : Int) := by omega
                have s4 : (v' : Int) < (L.length : Int) := by omega
                have s5 : (v' : Int) + 1 < (L.length : Int) := by omega
                have s6 : v' < L.length := by omega
                have s7 : decide ((0 : Int) < (v' : Int) + 1) = true := decide_eq_true (by omega)
                have s8 : (n : Int) + ((v' : Int) + 1) - (n : Int) = (v' : Int) + 1 := by omega
                have s9 : decide ((L.length : Int) ≤ (v' : Int) + 1) = false := decide_eq_false (by omega)
                have s10 : decide ((v' : Int) + 1 < 0) = false := decide_eq_false (by omega)
                have s11 : decide (L.length ≤ v' + 1) = false := decide_eq_false (by omega)
                have s12 : (0 : Int) ≤ (v' : Int) + 1 := by omega
                go_upto_region 70 with fail
                go_quiet (fail)
                go_upto_region 72 with fail
                go_quiet (fail)
                go_wp2
                go_roundg (n - (a + 1))
                case measure => omega
                case rel => exact ⟨a + 1, by omega, rfl, by go_num, hat3.drewN _⟩
            · have hlen : (Rt.rowsEnd n s f c L (fun _ => []) (L.length - 1) a).length = 0 := by rw [hrow]; simp [Rt.outE, haf]
              obtain ⟨ah, ac, hRe⟩ := hfam.header hru
              rw [hRe, hlen] at xh
              obtain ⟨D', hD'⟩ : ∃ D', L.length = D' + 1 := ⟨L.length - 1, by omega⟩
              have z1 := hat.nodes.cell (i := D') (by omega)
              have hle : Rt.lat L D' ≤ f a := (TM.out.after (f a) D' (by omega)).2 (by omega)
              have s1 : decide ((0 : Int) < (L.length : Int)) = true := decide_eq_true (by omega)
              have s2 : decide (0 < L.length) = true := decide_eq_true (by omega)
              have s3 : decide (f a < Rt.lat L D') = false := decide_eq_false (by omega)
              have s4 : (L.length : Int) - 1 = (D' : Int) := by omega
              have s5 : (D' : Int) < (L.length : Int) := by omega
              have s6 : D' < L.length := by omega
              clear hrow hRe hlen hD'
              go_upto_region 63 with fail
              go_quiet (fail)
              go_wp2
              go_roundg (n - (a + 1))
              case measure => omega
              case rel => exact ⟨a + 1, by omega, rfl, by go_num, hat.drewN _⟩
        · have : a = n := by omega
          subst this
          go_wp2
          go_ret
          exact ⟨rfl, hbW.trans (hat.below.mono hbW.size)⟩

end Go.Proofs.Qxb6600569a
