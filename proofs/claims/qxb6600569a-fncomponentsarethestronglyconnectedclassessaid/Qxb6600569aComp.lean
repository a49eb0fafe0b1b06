/-
  'components': Tarjan's algorithm walked. 
-/
import Derived.Test.Qxb6600569aVisit
import Derived.Test.Qxb6600569aEdges
import Derived.Deep.QuietTactic
import Derived.BigQuiet
namespace Go.Proofs.Qxb6600569a
open Go.RowKit
open Tj (upd upd_same upd_other)
set_option linter.unusedVariables false

/-- What 'components' leaves: the numbers of the strongly connected components. -/
structure CompPost (w : World) (n : Nat) (g : Nat → List Nat) (e : Ending) (w' : World) : Prop where
  out : ∃ b comp k, e = .returned (.slice (some ⟨b, 0, none⟩) n n) ∧ w.heap.size ≤ b ∧ w'.rowIs b 3 n (fun i => .int .i64 (comp i)) ∧ Tj.Good n g comp k
  below : Below w.heap.size w w'

theorem TW.drewN {w : World} {B n : Nat} {s : Tj.St} {cv sv : Value} (h : TW w B n s cv sv) (k : Nat) : TW (w.drewN k) B n s cv sv := h.of_blocks fun _ _ => rfl

/-- The count of components lies in no block. -/
theorem TW.comps {w : World} {B n : Nat} {s : Tj.St} {cv sv : Value} (h : TW w B n s cv sv) (c : Nat) : TW w B n { s with comps := c } cv sv :=
  ⟨h.order, h.orderBox, h.low, h.lowBox, h.comp, h.callsBox, h.stackBox, h.visits, h.calls, h.stack, h.apart⟩

/-- At the head of the loop over the roots. -/
structure AtRoot (w : World) (B n : Nat) (g : Nat → List Nat) (r : Nat) (c : Value) (wr : World) (s : Tj.St) (cv sv : Value) : Prop where
  comps : c = .int .i64 s.comps
  tw : TW wr B n s cv sv
  inv : Tj.Inv n g s
  seen : ∀ x, x < r → 0 < s.order x
  below : Below B w wr

/-- The rows behind 'make' and the loop that lays -1. -/
structure AtFill (w : World) (B n k : Nat) (wr : World) : Prop where
  order : wr.rowIs B 3 n (fun _ => .int .i64 0)
  orderBox : wr.rowIs (B + 1) 59 1 (fun _ => .slice (some ⟨B, 0, none⟩) n n)
  low : wr.rowIs (B + 2) 3 n (fun _ => .int .i64 0)
  lowBox : wr.rowIs (B + 3) 59 1 (fun _ => .slice (some ⟨B + 2, 0, none⟩) n n)
  comp : wr.rowIs (B + 4) 3 n (fun i => if i < k then .int .i64 (-1) else .int .i64 0)
  size : wr.heap.size = B + 5
  below : Below B w wr

theorem edge_cells_len (L : List (Nat × Int)) : (L.flatMap edgeCells).length = L.length * 3 := by
  induction L with
  | nil => rfl
  | cons e L ih => rw [List.flatMap_cons, List.length_append, ih]; simp [edgeCells]; omega

/-- Where an edge's fields lie. -/
theorem edge_at (L : List (Nat × Int)) (k j : Nat) (hk : k < L.length) (hj : j < 3) : (L.flatMap edgeCells)[k * 3 + j]? = (edgeCells L[k])[j]? := by
  induction L generalizing k with
  | nil => simp at hk
  | cons e L ih =>
    rw [List.flatMap_cons]
    cases k with
    | zero =>
      rw [List.getElem?_append_left (by simp [edgeCells]; omega)]
      simp
    | succ k =>
      have hl : (edgeCells e).length = 3 := rfl
      rw [List.getElem?_append_right (by omega), hl]
      have : (k + 1) * 3 + j - 3 = k * 3 + j := by omega
      rw [this, ih k (by simpa using hk)]
      simp

theorem edge_to (L : List (Nat × Int)) (k : Nat) (hk : k < L.length) : (L.flatMap edgeCells)[k * 3]? = some (.int .i64 L[k].1) := edge_at L k 0 hk (by omega)

theorem rowIs_one (w : World) (v : Value) (t : TypeId) (b : Nat) (hb : w.heap.size = b) : (w.alloc (.cells #[v] t)).rowIs b t 1 (fun _ => v) := by
  subst hb
  exact World.rowIs_alloc w #[v] t (fun _ => v) (fun i hi => by have : i = 0 := by simpa using hi
                                                                subst this; rfl)

theorem rowIs_zeros (w : World) (v : Value) (t : TypeId) (b n : Nat) (hb : w.heap.size = b) : (w.alloc (.cells (madeCells #[v] n) t)).rowIs b t n (fun _ => v) := by
  subst hb
  exact World.rowIs_made w v n t

theorem fill_start (w : World) (B n : Nat) (hB : w.heap.size = B) :
    AtFill w B n 0 (((((w.alloc (.cells (madeCells #[.int .i64 0] n) 3)).alloc (.cells #[.slice (some ⟨B, 0, none⟩) n n] 59)).alloc (.cells (madeCells #[.int .i64 0] n) 3)).alloc (.cells #[.slice (some ⟨B + 2, 0, none⟩) n n] 59)).alloc (.cells (madeCells #[.int .i64 0] n) 3)) :=
  ⟨((((rowIs_zeros w _ 3 B n hB).alloc _).alloc _).alloc _).alloc _, (((rowIs_one _ _ 59 (B + 1) (by simp [hB])).alloc _).alloc _).alloc _, ((rowIs_zeros _ _ 3 (B + 2) n (by simp [hB])).alloc _).alloc _, (rowIs_one _ _ 59 (B + 3) (by simp [hB])).alloc _,
   (rowIs_zeros _ _ 3 (B + 4) n (by simp [hB])).congr (fun i _ => by simp), by simp [hB], (((((Below.refl B w).alloc (by omega) _).alloc (by simp; omega) _).alloc (by simp; omega) _).alloc (by simp; omega) _).alloc (by simp; omega) _⟩

theorem fill_step' {w wr : World} {B n k : Nat} (h : AtFill w B n k wr) : AtFill w B n (k + 1) (wr.setCell ⟨B + 4, k, none⟩ (.int .i64 (-1))) :=
  ⟨h.order.setOther (by simp) _, h.orderBox.setOther (by simp) _, h.low.setOther (by simp) _, h.lowBox.setOther (by simp) _, (h.comp.set k _).congr (fill_step (fun _ => .int .i64 (-1)) _ k), by simpa using h.size, h.below.setCell (by simp) _⟩

theorem fill_done {w wr : World} {B n : Nat} (g : Nat → List Nat) (h : AtFill w B n n wr) :
    AtRoot w B n g 0 (.int .i64 0) (((wr.alloc (.cells #[.slice none 0 0] 85)).alloc (.cells #[.slice none 0 0] 59)).alloc (.cells #[.int .i64 0] 3)) Tj.init (.slice none 0 0) (.slice none 0 0) := by
  have hs := h.size
  refine ⟨rfl, ⟨((h.order.alloc _).alloc _).alloc _, ((h.orderBox.alloc _).alloc _).alloc _, ((h.low.alloc _).alloc _).alloc _, ((h.lowBox.alloc _).alloc _).alloc _, (((h.comp.congr ?_).alloc _).alloc _).alloc _,
    ((rowIs_one _ _ 85 (B + 5) hs).alloc _).alloc _, (rowIs_one _ _ 59 (B + 6) (by simp [hs])).alloc _, rowIs_one _ _ 3 (B + 7) (by simp [hs]), World.ownsRow_nil _ _ _ _, World.ownsRow_nil _ _ _ _, fun k hk => by simp [Value.ownBlock] at hk⟩,
    Tj.Inv.init n g, fun x hx => by omega, ((h.below.alloc (by omega) _).alloc (by simp; omega) _).alloc (by simp; omega) _⟩
  intro i hi
  simp [hi, Tj.init]

theorem upd_self {α : Type} (f : Nat → α) (i : Nat) : upd f i (f i) = f := by
  funext x
  by_cases e : x = i
  · subst e; rw [upd_same]
  · rw [upd_other _ _ _ _ e]

theorem split_rest {rest : List (Nat × Nat)} {m : Nat} (h : rest.length = m) (hm : 0 < m) : ∃ p j rest', rest = (p, j) :: rest' := by
  cases rest with
  | nil => simp at h; omega
  | cons x r => exact ⟨x.1, x.2, r, rfl⟩

/-- The component's number laid on those that have been taken off. -/
def laid (s : Tj.St) (q : List Nat) : Nat → Int := fun x => if x ∈ q then (s.comps : Int) else s.comp x

theorem laid_nil (s : Tj.St) : laid s [] = s.comp := by funext x; simp [laid]
theorem laid_snoc (s : Tj.St) (q : List Nat) (y : Nat) : upd (laid s q) y (s.comps : Int) = laid s (q ++ [y]) := by
  funext x
  by_cases e : x = y
  · subst e; rw [upd_same]; simp [laid]
  · rw [upd_other _ _ _ _ e]; simp [laid, e]

theorem Below.drewN' {B : Nat} {w wr : World} (h : Below B w wr) (k : Nat) : Below B w (wr.drewN k) := ⟨h.os, h.tape, h.output, h.size, h.block⟩

theorem visit_seen {s : Tj.St} {v k t x : Nat} {rest : List (Nat × Nat)} (h : 0 < s.order x) : 0 < (Tj.visit (Tj.bump s v k rest) t).order x := by
  show 0 < upd s.order t (s.visits + 1) x
  by_cases e : x = t
  · subst e; rw [upd_same]; omega
  · rw [upd_other _ _ _ _ e]; exact h

set_option maxHeartbeats 1000000 in
set_option maxRecDepth 100000 in
theorem comp_any (base bg n cap B : Nat) (G : Nat → List (Nat × Int)) (g : Nat → List Nat) (w : World) (hB : w.heap.size = B) (hn : n ≤ 65536) (hG : GraphIs w base bg n G) (hg : ∀ u, u < n → g u = (G u).map Prod.fst) (hdeg : ∀ u, (g u).length ≤ 4294967296) (hin : ∀ u, u < n → ∀ v ∈ g u, v < n) :
    Calls Try.prog 38 #[.slice (some ⟨bg, 0, none⟩) n cap] w (CompPost w n g) := by
  have hmk := run_make_row' (P := Try.prog) 59 3 (.int .i64 0) 8 Try.underlying59 Try.info3 rfl .i64 .i64 n (by omega) (by omega)
  obtain ⟨R, hfam⟩ := hG
  have HG : Hid (∀ u, u < n → g u = (G u).map Prod.fst) := hg
  clear hg
  have e2 : B + 1 + 1 = B + 2 := rfl
  have e3 : B + 2 + 1 = B + 3 := rfl
  have e4 : B + 3 + 1 = B + 4 := rfl
  go_enter Try.func38, Try.ntmps38
  go_wp2
  go_loopg [30, 6] n (fun q i j wr => ∃ k : Nat, k ≤ n ∧ q = n - k ∧ i = .int .i64 k ∧ AtFill w B n k wr)
  case atStart => exact ⟨0, Nat.zero_le _, rfl, rfl, fill_start w B n hB⟩
  case round =>
    obtain ⟨k, hk, rfl, rfl, hf⟩ := hrel
    by_cases hlt : k < n
    · have c4 := hf.comp.cell hlt
      have f4 := hf.comp.frozen k
      go_wp2
      go_roundg (n - (k + 1))
      case measure => omega
      case rel => exact ⟨k + 1, by omega, rfl, by go_num, fill_step' hf⟩
    · have : n = k := by omega
      subst this
      have hsz := hf.size
      have e6 : B + 5 + 1 = B + 6 := rfl
      have e7 : B + 6 + 1 = B + 7 := rfl
      go_wp2
      have H0 := fill_done g hf
      clear hf hsz hk hlt
      generalize (((wr.alloc (.cells #[.slice none 0 0] 85)).alloc (.cells #[.slice none 0 0] 59)).alloc (.cells #[.int .i64 0] 3)) = W0 at H0 ⊢
      go_loopg [40, 10] n (fun q i c wr => ∃ r : Nat, r ≤ n ∧ q = n - r ∧ i = .int .i64 r ∧ ∃ s cv sv, AtRoot w B n g r c wr s cv sv ∧ s.calls = [])
      case atStart => exact ⟨0, Nat.zero_le _, rfl, rfl, _, _, _, H0, rfl⟩
      case round =>
        clear H0
        obtain ⟨r, hr, rfl, rfl, s, cv, sv, hat, hcalls⟩ := hrel
        obtain ⟨hc, htw, hinv, hseen, hbel⟩ := hat
        subst hc
        by_cases hlt : r < n
        · have c1 := htw.orderBox.cell (i := 0) (by omega)
          have c0 : wr.cell? ⟨B, r, none⟩ = some (.int .i64 (s.order r)) := htw.order.cell hlt
          by_cases hz : 0 < s.order r
          · have hz' : (0 : Int) < (s.order r : Int) := by omega
            go_wp2
            go_roundg (n - (r + 1))
            case measure => omega
            case rel => exact ⟨r + 1, by omega, rfl, by go_num, s, cv, sv, ⟨rfl, htw, hinv, fun x hx => by by_cases e : x = r; exact e ▸ hz; exact hseen x (by omega), hbel⟩, hcalls⟩
          · have hz0 : s.order r = 0 := by omega
            have HZ : Hid (s.order r = 0) := hz0
            clear hz0
            have hz' : ¬ (0 : Int) < (s.order r : Int) := by omega
            have hvl := hinv.visits_lt hlt HZ.out
            have hsl := hinv.stack_len
            have hcl := hinv.calls_len
            go_wp2_with (go_at_call 42; refine (visit_any B n r s cv sv _ htw hlt hn hvl hsl hcl).mono ?_; rintro e w' ⟨rfl, ⟨cv', sv', htw'⟩, hb'⟩)
            have H1 : AtRoot w B n g (r + 1) (.int .i64 s.comps) w' (Tj.visit s r) cv' sv' := by
              refine ⟨rfl, htw', hinv.visit hlt HZ.out (fun c hc => by rw [hcalls] at hc; simp at hc), fun x hx => ?_, hbel.trans hb'⟩
              by_cases e : x = r
              · subst e; simp [Tj.visit, upd_same]
              · have := hseen x (by omega)
                simp only [Tj.visit]
                rw [upd_other _ _ _ _ e]; exact this
            clear htw htw' hinv hseen hbel hb' c0 c1 hz hz' HZ hvl hsl hcl hcalls
            go_loopg [10] (Tj.todo n 4294967296 g (Tj.visit s r)) (fun q c wr => ∃ s cv sv, q = Tj.todo n 4294967296 g s ∧ AtRoot w B n g (r + 1) c wr s cv sv)
            case atStart => exact ⟨_, _, _, rfl, H1⟩
            case round =>
              clear H1
              obtain ⟨s, cv, sv, rfl, hat⟩ := hrel
              obtain ⟨hc, htw, hinv, hseen, hbel⟩ := hat
              subst hc
              have c5 := htw.callsBox.cell (i := 0) (by omega)
              cases hcalls : s.calls with
              | nil =>
                have hcv : ∃ a cp, cv = .slice a 0 cp := by
                  have := htw.calls
                  rw [hcalls] at this
                  rcases this.2 with ⟨e, _⟩ | ⟨gg, cp, cur, e, _⟩
                  · exact ⟨none, 0, e⟩
                  · exact ⟨_, cp, e⟩
                obtain ⟨ac, cc, hcv⟩ := hcv
                rw [hcv] at c5
                have HC : Hid (s.calls = []) := hcalls
                clear hcalls
                go_wp2
                go_roundg (n - (r + 1))
                case measure => omega
                case rel => exact ⟨r + 1, by omega, rfl, by go_num, s, cv, sv, ⟨rfl, htw, hinv, hseen, hbel⟩, HC.out⟩
              | cons top rest =>
                obtain ⟨v, k⟩ := top
                obtain ⟨hvn, hkl⟩ := hinv.top_lt hcalls
                obtain ⟨gc, cpc, hcv, hle, hcap, hgc, t1, t2, f2⟩ := htw.callsTop hcalls
                subst hcv
                have HS : Hid (s.calls = (v, k) :: rest) := hcalls
                clear hcalls
                have hsl := hinv.stack_len
                have hcl : rest.length + 1 ≤ n := by have := hinv.calls_len; rw [HS.out] at this; simpa using this
                have hsize := htw.big
                simp only [N64] at t1 t2
                unfold maxLen at hcap
                have hLv : (G v).length = (g v).length := by rw [HG.out v hvn]; simp
                have hdv := hdeg v
                have cg := cell_keep (a := ⟨bg, v, none⟩) hbel (by omega) (hfam.row.cell hvn)
                have j1 : (0 : Int) ≤ (v : Int) := by omega
                have j2 : (v : Int) < (n : Int) := by omega
                by_cases hk : k < (g v).length
                · obtain ⟨gv, cpv, hR, _, hcells⟩ := hfam.cells hvn (by rw [hLv]; omega)
                  have j3 : (k : Int) < ((g v).length : Int) := by omega
                  have ct := hcells (k * 3) (by rw [hLv]; omega)
                  obtain ⟨t, ht⟩ : ∃ t, t = (g v)[k] := ⟨_, rfl⟩
                  have htn : t < n := by rw [ht]; exact hin v hvn _ (List.getElem_mem hk)
                  rw [edge_to (G v) k (by rw [hLv]; exact hk)] at ct
                  have hte : ((G v)[k]'(by rw [hLv]; exact hk)).1 = t := by rw [ht]; simp [HG.out v hvn]
                  rw [hte] at ct
                  have ct' := cell_keep hbel (by omega) ct
                  rw [hR, hLv] at cg
                  have HT : Hid (t = (g v)[k]) := ht
                  clear ht hte ct hcells hR hLv
                  have j4 : decide ((k : Int) < ((g v).length : Int)) = true := decide_eq_true j3
                  have c1 := htw.orderBox.cell (i := 0) (by omega)
                  have co : wr.cell? ⟨B, t, none⟩ = some (.int .i64 (s.order t)) := htw.order.cell htn
                  by_cases hz : s.order t = 0
                  · -- BEGIN E1
                    have HZ : Hid (s.order t = 0) := hz
                    clear hz
                    have hz' : ((s.order t : Int) == 0) = true := by have := HZ.out; simp; omega
                    go_wp2
                    go_quiet (fail)
                    go_wp2
                    go_quiet (fail)
                    have hinv1 : Tj.Inv n g (Tj.visit (Tj.bump s v k rest) t) := hinv.bumpVisit HS.out hk HT.out htn HZ.out
                    go_wp2_with (go_at_call 42; refine (visit_any B n t (Tj.bump s v k rest) _ sv _ (by exact (htw.drewN _).bump HS.out rfl) htn hn ?a1 ?a2 ?a3).mono ?_)
                    case a1 => exact hinv.visits_lt htn HZ.out
                    case a2 => exact hsl
                    case a3 => simpa [Tj.bump] using hcl
                    rintro e w' ⟨rfl, ⟨cv', sv', htw'⟩, hb'⟩
                    go_wp2
                    go_roundg (Tj.todo n 4294967296 g (Tj.visit (Tj.bump s v k rest) t))
                    case measure => exact Tj.todo_visit HS.out hk (hinv.visits_lt htn HZ.out) (hdeg t)
                    case rel =>
                      refine ⟨_, cv', sv', rfl, ⟨rfl, htw', hinv1, fun x hx => ?_, ((Below.drewN' hbel _).setCell (p := ⟨gc, rest.length * 2 + 1, none⟩) (show B ≤ gc by omega) _).trans hb'⟩⟩
                      exact visit_seen (hseen x hx)
                    -- END E1
                  · have hz0 : 0 < s.order t := by omega
                    have hz' : ((s.order t : Int) == 0) = false := by simp; omega
                    clear hz
                    have cc := htw.comp.cell htn
                    by_cases hcn : s.comp t < 0
                    · -- BEGIN E2
                      have HCN : Hid (s.comp t < 0) := hcn
                      have c3 := htw.lowBox.cell (i := 0) (by omega)
                      have cl : wr.cell? ⟨B + 2, v, none⟩ = some (.int .i64 (s.low v)) := htw.low.cell hvn
                      have fl := htw.low.frozen v
                      have i1 : (0 : Int) ≤ (t : Int) := by omega
                      have i2 : (t : Int) < (n : Int) := by omega
                      go_wp2
                      go_quiet (fail)
                      go_wp2
                      go_quiet (fail)
                      go_wp2
                      go_region
                      all_goals go_wp2
                      all_goals
                        go_roundg (Tj.todo n 4294967296 g { Tj.bump s v k rest with low := upd s.low v (min (s.low v) (s.order t)) })
                        case measure => exact Tj.todo_bump HS.out hk
                        case rel =>
                          refine ⟨_, .slice (some ⟨gc, 0, none⟩) (rest.length + 1) cpc, sv, rfl, ⟨rfl, ?_, hinv.bumpLower HS.out hk HT.out hz0 HCN.out, hseen, (((Below.drewN' hbel _).setCell (p := ⟨gc, rest.length * 2 + 1, none⟩) (show B ≤ gc by omega) _).setCell (p := ⟨B + 2, v, none⟩) (show B ≤ B + 2 by omega) _).drew⟩⟩
                          first
                            | (rw [show min (s.low v) (s.order t) = s.low v by omega]; exact (((htw.drewN _).bump HS.out rfl).setLow v _).drew)
                            | (rw [show min (s.low v) (s.order t) = s.order t by omega]; exact (((htw.drewN _).bump HS.out rfl).setLow v _).drew)
                      -- END E2
                    · -- BEGIN E3
                      have HCN : Hid (0 ≤ s.comp t) := by have h := hcn; show 0 ≤ s.comp t; omega
                      go_wp2
                      go_quiet (fail)
                      go_wp2
                      go_quiet (fail)
                      go_wp2
                      go_roundg (Tj.todo n 4294967296 g (Tj.bump s v k rest))
                      case measure => exact Tj.todo_bump HS.out hk
                      case rel =>
                        exact ⟨_, _, sv, rfl, ⟨rfl, (htw.drewN _).bump HS.out rfl, hinv.bump HS.out hk (by rw [← HT.out]; exact hz0) (fun hh => absurd (show s.comp t < 0 by rw [HT.out]; exact hh) (by have := HCN.out; omega)), hseen, (Below.drewN' hbel _).setCell (p := ⟨gc, rest.length * 2 + 1, none⟩) (show B ≤ gc by omega) _⟩⟩
                      -- END E3
                · have hkk : k = (g v).length := by omega
                  have HK : Hid (k = (g v).length) := hkk
                  obtain ⟨ah, ch, hR⟩ := hfam.header hvn
                  rw [hR, hLv] at cg
                  have j4 : decide ((k : Int) < ((g v).length : Int)) = false := decide_eq_false (by omega)
                  have j5 : (g v).length ≤ k := by omega
                  have j6 : decide (k < (g v).length) = false := decide_eq_false (by omega)
                  clear hR hLv hk hkk
                  have c1 := htw.orderBox.cell (i := 0) (by omega)
                  have co : wr.cell? ⟨B, v, none⟩ = some (.int .i64 (s.order v)) := htw.order.cell hvn
                  have c3 := htw.lowBox.cell (i := 0) (by omega)
                  have cl : wr.cell? ⟨B + 2, v, none⟩ = some (.int .i64 (s.low v)) := htw.low.cell hvn
                  have f5 := htw.callsBox.frozen 0
                  have T1 := htw.popCalls HS.out rfl
                  have B1 := hbel.setCell (p := ⟨B + 5, 0, none⟩) (show B ≤ B + 5 by omega) (.slice (some ⟨gc, 0, none⟩) rest.length cpc)
                  obtain ⟨m, hm⟩ : ∃ m, rest.length = m := ⟨_, rfl⟩
                  rw [hm] at T1 B1 hle t1 t2 f2 hcl c5
                  have HM : Hid (rest.length = m) := hm
                  clear hm
                  by_cases hlow : s.low v = s.order v
                  · -- BEGIN F1
                    have HL : Hid (s.low v = s.order v) := hlow
                    clear hlow
                    have hvs := hinv.callsOn (v, k) (by rw [HS.out]; simp)
                    obtain ⟨pre, post, hst⟩ := List.append_of_mem hvs
                    have HST : Hid (s.stack = pre ++ v :: post) := hst
                    clear hst
                    have hnp : v ∉ pre := by
                      have h1 := hinv.sorted
                      rw [HST.out, List.pairwise_append] at h1
                      intro hh
                      exact Nat.lt_irrefl _ (h1.2.2 v hh v (by simp))
                    have hpl : pre.length ≤ n := by have h1 := hinv.stack_len; rw [HST.out] at h1; simp at h1; omega
                    have hql : post.length ≤ n := by have h1 := hinv.stack_len; rw [HST.out] at h1; simp at h1; omega
                    have hbe : ((s.low v : Int) == (s.order v : Int)) = true := by have h1 := HL.out; simp; omega
                    have T2 : ∀ q, TW ((wr.drewN q).setCell ⟨B + 5, 0, none⟩ (.slice (some ⟨gc, 0, none⟩) m cpc)) B n { s with calls := rest } (.slice (some ⟨gc, 0, none⟩) m cpc) sv := fun q => by
                      have h2 := (htw.drewN q).popCalls HS.out rfl
                      rw [HM.out] at h2
                      exact h2
                    have B2 : ∀ q, Below B w ((wr.drewN q).setCell ⟨B + 5, 0, none⟩ (.slice (some ⟨gc, 0, none⟩) m cpc)) := fun q => (Below.drewN' hbel _).setCell (p := ⟨B + 5, 0, none⟩) (show B ≤ B + 5 by omega) _
                    have hmm : ¬ (0 : Int) < (m : Int) ∨ (0 : Int) < (m : Int) := by omega
                    have hcm : s.comps ≤ n := by have h1 := hinv.comps; have h2 := hinv.visits_le; omega
                    rcases hmm with i3 | i3
                    focus
                      have i4 : decide (0 < m) = false := decide_eq_false (by omega)
                      go_wp2
                      go_quiet (fail)
                      go_wp2
                      have T3 := T2 nq
                      have B3 := B2 nq
                      generalize ((wr.drewN nq).setCell ⟨B + 5, 0, none⟩ (.slice (some ⟨gc, 0, none⟩) m cpc)) = W at T3 B3 ⊢
                    rotate_left
                    focus
                      have i4 : decide (0 < m) = true := decide_eq_true (by omega)
                      obtain ⟨p, j, rest', hrest⟩ := split_rest HM.out (by omega)
                      have HR : Hid (rest = (p, j) :: rest') := hrest
                      clear hrest
                      have hm2 : m - 1 = rest'.length := by rw [← HM.out, HR.out]; simp
                      obtain ⟨gc', cp', he, -, -, -, tp, -, -⟩ := T1.callsTop HR.out
                      simp only [Value.slice.injEq, Option.some.injEq, Addr.mk.injEq, and_true] at he
                      obtain ⟨he1, -, -⟩ := he
                      subst he1
                      rw [← hm2] at tp
                      have tp' : wr.cell? ⟨gc, (m - 1) * 2, none⟩ = some (.int .i64 p) := by
                        rw [World.cell?_setCell_other _ _ _ _ (by simp only [ne_eq, Addr.mk.injEq, and_true]; omega)] at tp
                        exact tp
                      clear tp hm2
                      have hps := hinv.callsOn (p, j) (by rw [HS.out, HR.out]; simp)
                      have hpn : p < n := hinv.lt _ ((hinv.onStack _).1 hps).1
                      have hpo : s.order p < s.order v := hinv.top_order HS.out (p, j) (by rw [HR.out]; simp)
                      have hpl2 := hinv.lowLe p hps
                      have hvp : ¬ v = p := by intro e; subst e; omega
                      have hpv : ¬ p = v := fun e => hvp e.symm
                      have hmin : s.low p < s.low v := by rw [HL.out]; omega
                      have cp := htw.low.cell hpn
                      have fp := htw.low.frozen p
                      simp only [N64] at cp
                      have i1 : (0 : Int) ≤ (p : Int) := by omega
                      have i2 : (p : Int) < (n : Int) := by omega
                      go_wp2
                      go_quiet (fail)
                      go_wp2
                      go_region
                      all_goals go_wp2
                      have T3 := ((T2 nq).setLow p (s.low p)).drew
                      have B3 := ((B2 nq).setCell (p := ⟨B + 2, p, none⟩) (show B ≤ B + 2 by omega) (N64 (s.low p))).drew
                      simp only [upd_self] at T3
                      simp only [N64] at T3 B3
                      generalize (((wr.drewN nq).setCell ⟨B + 5, 0, none⟩ (.slice (some ⟨gc, 0, none⟩) m cpc)).setCell ⟨B + 2, p, none⟩ (.int .i64 (s.low p))).drew = W at T3 B3 ⊢
                    all_goals
                      clear T2 B2 T1 B1 htw hbel c1 co c3 cl f5 t1 t2 f2 c5 cg
                      have c1 := T3.orderBox.cell (i := 0) (by omega)
                      have co : W.cell? ⟨B, v, none⟩ = some (.int .i64 (s.order v)) := T3.order.cell hvn
                      have c3 := T3.lowBox.cell (i := 0) (by omega)
                      have cl : W.cell? ⟨B + 2, v, none⟩ = some (.int .i64 (s.low v)) := T3.low.cell hvn
                      go_quiet (fail)
                      go_wp2
                      have T4 : TW (W.drewN nq) B n { s with calls := rest, stack := pre ++ v :: post, comp := laid s [] } (.slice (some ⟨gc, 0, none⟩) m cpc) sv := by
                        rw [laid_nil, ← HST.out]
                        exact T3.drewN nq
                      have B4 := Below.drewN' B3 nq
                      clear T3 B3 c1 co c3 cl
                      generalize W.drewN nq = W2 at T4 B4 ⊢
                      go_loopg [18] pre.length (fun q x wq => ∃ dn rem sv', pre = dn ++ rem ∧ q = rem.length ∧ TW wq B n { s with calls := rest, stack := rem ++ v :: post, comp := laid s dn } (.slice (some ⟨gc, 0, none⟩) m cpc) sv' ∧ Below B w wq)
                      case atStart => exact ⟨[], pre, sv, rfl, rfl, T4, B4⟩
                      case round =>
                        clear T4 B4
                        obtain ⟨dn, rem, sv', hpre, rfl, T5, B5⟩ := hrel
                        have HP : Hid (pre = dn ++ rem) := hpre
                        clear hpre
                        have c6 := T5.stackBox.cell (i := 0) (by omega)
                        have f6 := T5.stackBox.frozen 0
                        cases rem with
                        | nil =>
                          obtain ⟨gs, cs, hsv, hls, hms, ctop⟩ := T5.stackTop (x := v) (rest := post) rfl
                          subst hsv
                          unfold maxLen at hms
                          simp only [N64] at ctop
                          have c4 := T5.comp.cell hvn
                          have f4 := T5.comp.frozen v
                          go_wp2
                          go_roundg (Tj.todo n 4294967296 g (Tj.pop s (pre ++ [v]) post rest))
                          case measure => exact Tj.todo_pop HS.out _ rfl rfl
                          case rel =>
                            have T6 := (T5.popStack (x := v) (rest := post) rfl rfl).setComp v s.comps
                            simp only [laid_snoc] at T6
                            have ep : dn = pre := by rw [HP.out]; simp
                            rw [ep] at T6
                            exact ⟨_, _, _, rfl, ⟨by show Value.int .i64 _ = .int .i64 ((s.comps + 1 : Nat) : Int); go_num, T6.comps _, hinv.pop HS.out HK.out HL.out HST.out, hseen, (B5.setCell (p := ⟨B + 6, 0, none⟩) (show B ≤ B + 6 by omega) _).setCell (p := ⟨B + 4, v, none⟩) (show B ≤ B + 4 by omega) _⟩⟩
                        | cons y rem =>
                          have hyn : y < n := by
                            have h1 : y ∈ s.stack := by rw [HST.out, HP.out]; simp
                            exact hinv.lt _ ((hinv.onStack _).1 h1).1
                          have hyv : ¬ y = v := fun e => hnp (by rw [HP.out, ← e]; simp)
                          have hyb : ((y : Int) == (v : Int)) = false := by simp; omega
                          obtain ⟨gs, cs, hsv, hls, hms, ctop⟩ := T5.stackTop (x := y) (rest := rem ++ v :: post) rfl
                          subst hsv
                          unfold maxLen at hms
                          simp only [N64] at ctop
                          have c4 := T5.comp.cell hyn
                          have f4 := T5.comp.frozen y
                          have hll : (rem ++ v :: post).length ≤ 2 * n + 2 := by
                            have h1 : rem.length ≤ pre.length := by rw [HP.out]; simp; omega
                            simp; omega
                          have T6 := (T5.popStack (x := y) (rest := rem ++ v :: post) rfl rfl).setComp y s.comps
                          simp only [laid_snoc] at T6
                          have B6 := (B5.setCell (p := ⟨B + 6, 0, none⟩) (show B ≤ B + 6 by omega) (.slice (some ⟨gs, 0, none⟩) (rem ++ v :: post).length cs)).setCell (p := ⟨B + 4, y, none⟩) (show B ≤ B + 4 by omega) (.int .i64 s.comps)
                          obtain ⟨ml, hml⟩ : ∃ ml, ml = (rem ++ v :: post).length := ⟨_, rfl⟩
                          rw [← hml] at ctop c6 hls hll T6 B6
                          have HML : Hid (ml = (rem ++ v :: post).length) := hml
                          clear hml
                          go_wp2
                          go_roundg rem.length
                          case measure => simp
                          case rel => exact ⟨dn ++ [y], rem, _, by rw [HP.out]; simp, rfl, T6, B6⟩
                    -- END F1
                  · -- BEGIN F2
                    have hvs := hinv.callsOn (v, k) (by rw [HS.out]; simp)
                    have hlt' : s.low v < s.order v := by have := hinv.lowLe v hvs; have h' := hlow; omega
                    clear hlow
                    cases hrest : rest with
                    | nil => exact absurd (hinv.alone (by rw [HS.out, hrest])) (by omega)
                    | cons pj rest' =>
                      obtain ⟨p, j⟩ := pj
                      have HR : Hid (rest = (p, j) :: rest') := hrest
                      clear hrest
                      have hm1 : 0 < m := by rw [← HM.out, HR.out]; simp
                      have hm2 : m - 1 = rest'.length := by rw [← HM.out, HR.out]; simp
                      obtain ⟨gc', cp', he, -, -, -, tp, -, -⟩ := T1.callsTop HR.out
                      simp only [Value.slice.injEq, Option.some.injEq, Addr.mk.injEq, and_true] at he
                      obtain ⟨he1, -, -⟩ := he
                      subst he1
                      rw [← hm2] at tp
                      have tp' : wr.cell? ⟨gc, (m - 1) * 2, none⟩ = some (.int .i64 p) := by
                        rw [World.cell?_setCell_other _ _ _ _ (by simp only [ne_eq, Addr.mk.injEq, and_true]; omega)] at tp
                        exact tp
                      clear tp hm2
                      have hpn : p < n := by
                        have h1 := hinv.callsOn (p, j) (by rw [HS.out, HR.out]; simp)
                        exact hinv.lt _ ((hinv.onStack _).1 h1).1
                      have hvp : ¬ v = p := by
                        have h1 : s.order p < s.order v := hinv.top_order HS.out (p, j) (by rw [HR.out]; simp)
                        intro e; subst e; omega
                      have hpv : ¬ p = v := fun e => hvp e.symm
                      have cp := htw.low.cell hpn
                      have fp := htw.low.frozen p
                      simp only [N64] at cp
                      have i1 : (0 : Int) ≤ (p : Int) := by omega
                      have i2 : (p : Int) < (n : Int) := by omega
                      have i3 : (0 : Int) < (m : Int) := by omega
                      have hne : ((s.low v : Int) == (s.order v : Int)) = false := by simp; omega
                      go_wp2
                      go_quiet (fail)
                      go_wp2
                      go_region
                      all_goals go_wp2
                      all_goals go_quiet (fail)
                      all_goals go_wp2
                      all_goals
                        go_roundg (Tj.todo n 4294967296 g { s with calls := (p, j) :: rest', low := upd s.low p (min (s.low p) (s.low v)) })
                        case measure => exact Tj.todo_pop HS.out _ (by rw [HR.out]) rfl
                        case rel =>
                          refine ⟨_, .slice (some ⟨gc, 0, none⟩) m cpc, sv, rfl, ⟨rfl, ?_, hinv.finish (by rw [HS.out, HR.out]) HK.out hlt', hseen, Below.drewN' (((Below.drewN' hbel _).setCell (p := ⟨B + 5, 0, none⟩) (show B ≤ B + 5 by omega) _).setCell (p := ⟨B + 2, p, none⟩) (show B ≤ B + 2 by omega) _).drew _⟩⟩
                          have T2 : ∀ q, TW ((wr.drewN q).setCell ⟨B + 5, 0, none⟩ (.slice (some ⟨gc, 0, none⟩) m cpc)) B n { s with calls := (p, j) :: rest' } (.slice (some ⟨gc, 0, none⟩) m cpc) sv := fun q => by
                            have h2 := (htw.drewN q).popCalls HS.out rfl
                            rw [HM.out, HR.out] at h2
                            exact h2
                          first
                            | (rw [show min (s.low p) (s.low v) = s.low p by omega]; exact ((T2 _).setLow p _).drew.drewN _)
                            | (rw [show min (s.low p) (s.low v) = s.low v by omega]; exact ((T2 _).setLow p _).drew.drewN _)
                    -- END F2
        · have : n = r := by omega
          subst this
          go_wp2
          go_ret
          refine ⟨⟨B + 4, s.comp, s.comps, rfl, by omega, htw.comp, hinv.final hcalls hseen⟩, ?_⟩
          rw [hB]
          exact hbel

end Go.Proofs.Qxb6600569a
