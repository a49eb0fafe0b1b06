/-
  'ZZNewEdge', 'zzEdges': the adjacency lists as lists of edges.
-/
import Derived.Test.Qxb6600569aAdj
import Derived.Deep.RegionHeldLaw
import Derived.Deep.RegionLaw
import Derived.Deep.DrawnRows
namespace Go.Proofs.Qxb6600569a
open Go.RowKit
open Tj (upd upd_same upd_other)
set_option linter.unusedVariables false
attribute [local go_sem ↓] Go.wp_at_zero Go.wp_at_succ

theorem newEdge (t k : Int) (w : World) : Calls Try.prog 37 #[.int .i64 t, .int .i8 k] w fun e w' => e = .returned (.agg #[.int .i64 t, .int .i8 k, .string ⟨#[]⟩]) ∧ w' = w.alloc (.cells #[.int .i64 t, .int .i8 k, .string ⟨#[]⟩] 63) := by
  go_enter Try.func37, Try.ntmps37
  go_wp2
  exact bodyPost_ret (v := .agg #[.int .i64 t, .int .i8 k, .string ⟨#[]⟩]) (by simp [results, Try.results37, go_sem]) rfl ⟨rfl, rfl⟩

/-- The three cells of an edge without a key. -/
def edgeCells (e : Nat × Int) : List Value := [.int .i64 e.1, .int .i8 e.2, .string ⟨#[]⟩]

/-- A GRAPH IN MEMORY: a slice of slices of edges that some call made. -/
structure GraphIs (w : World) (base b n : Nat) (G : Nat → List (Nat × Int)) : Prop where
  fam : ∃ R, Fam w base b 60 63 3 n R (fun u => (G u).length) (fun u => (G u).flatMap edgeCells)

/-- The lists of edges when u rows are done and k edges of the next. -/
def edgesTo (g : Nat → List Nat) (u k : Nat) : Nat → List (Nat × Int) := fun i => if i < u then (g i).map (·, 0) else if i = u then ((g i).take k).map (·, 0) else []

def edgesOf (g : Nat → List Nat) : Nat → List (Nat × Int) := fun i => (g i).map (·, 0)

theorem edgesTo_step (g : Nat → List Nat) (u k : Nat) (h : k < (g u).length) : edgesTo g u (k + 1) = upd (edgesTo g u k) u (edgesTo g u k u ++ [((g u)[k], 0)]) := by
  funext i
  by_cases e : i = u
  · subst e
    rw [upd_same]
    simp only [edgesTo, Nat.lt_irrefl, if_false, if_true]
    rw [List.take_succ_eq_append_getElem h, List.map_append]
    rfl
  · rw [upd_other _ _ _ _ e]
    simp [edgesTo, e]

theorem edgesTo_next (g : Nat → List Nat) (u : Nat) : edgesTo g u (g u).length = edgesTo g (u + 1) 0 := by
  funext i
  simp only [edgesTo]
  by_cases e : i = u
  · subst e; simp
  · by_cases e1 : i < u
    · rw [if_pos e1, if_pos (by omega)]
    · rw [if_neg e1, if_neg e, if_neg (by omega)]
      simp

theorem cell_alloc_keep {w : World} {a : Addr} {v : Value} (h : w.cell? a = some v) (o : Obj) : (w.alloc o).cell? a = some v :=
  cell_keep ((Below.refl w.heap.size w).alloc (Nat.le_refl _) o) (Nat.le_refl _) h

theorem two_new (w : World) (o o' : Obj) : ((w.alloc o).alloc o').drew.heap[w.heap.size + 1]? = some o' := by
  have := heap_alloc_new (w.alloc o) o'
  rw [World.size_alloc] at this
  exact this

theorem two_old (w : World) (o o' : Obj) (k : Nat) (h : k < w.heap.size) : ((w.alloc o).alloc o').drew.heap[k]? = w.heap[k]? :=
  (Below.heap_alloc (w.alloc o) o' k (by simp; omega)).trans (Below.heap_alloc w o k h)

/-- What 'zzEdges' leaves. -/
structure GraphPost (w : World) (n : Nat) (G : Nat → List (Nat × Int)) (e : Ending) (w' : World) : Prop where
  ret : e = .returned (.slice (some ⟨w.heap.size, 0, none⟩) n n)
  graph : GraphIs w' w.heap.size w.heap.size n G
  below : Below w.heap.size w w'

theorem Try.info60 : (Try.prog.info? 60).map (fun i => (i.zero, i.size, i.bytes)) = some (some (.slice none 0 0), 1, 24) := by kernel_rfl
theorem Try.info63 : (Try.prog.info? 63).map (fun i => (i.zero, i.size, i.bytes)) = some (some (.agg #[.int .i64 0, .int .i8 0, .string ⟨#[]⟩]), 3, 32) := by kernel_rfl

set_option maxHeartbeats 1000000 in
set_option maxRecDepth 100000 in
theorem edges_any (base b n cap : Nat) (g : Nat → List Nat) (w : World) (hn : n ≤ 65536) (hg : AdjIs w base b n g) (hdeg : ∀ u, (g u).length ≤ 4294967296) :
    Calls Try.prog 26 #[.slice (some ⟨b, 0, none⟩) n cap] w (GraphPost w n (edgesOf g)) := by
  have hmk := run_make_row' (P := Try.prog) 54 60 (.slice none 0 0) 24 Try.underlying54 Try.info60 rfl .i64 .i64 n (by omega) (by omega)
  obtain ⟨i0, hi, hz0, hz1, hz2⟩ := info_parts Try.info63
  obtain ⟨A, hadj⟩ := hg
  go_enter Try.func26, Try.ntmps26
  go_wp2
  go_loopg [4, 5] n (fun q i j wr => ∃ u : Nat, u ≤ n ∧ q = n - u ∧ i = .int .i64 u ∧ GraphIs wr w.heap.size w.heap.size n (edgesTo g u 0) ∧ Below w.heap.size w wr)
  case atStart => exact ⟨0, Nat.zero_le _, rfl, rfl, ⟨_, (Fam.made w w.heap.size 60 63 3 n (Nat.le_refl _)).congr (fun _ _ => rfl) (fun u _ => by simp [edgesTo]) (fun u _ => by simp [edgesTo])⟩, (Below.refl _ _).alloc (Nat.le_refl _) _⟩
  case round =>
    obtain ⟨u, hu, rfl, rfl, ⟨R, hfam⟩, hbel⟩ := hrel
    by_cases hlt : u < n
    · go_wp2
      go_loopg [5] (g u).length (fun q j wr => ∃ k : Nat, k ≤ (g u).length ∧ q = (g u).length - k ∧ j = .int .i64 k ∧ GraphIs wr w.heap.size w.heap.size n (edgesTo g u k) ∧ Below w.heap.size w wr)
      case atStart => exact ⟨0, Nat.zero_le _, rfl, rfl, ⟨R, hfam⟩, hbel⟩
      case round =>
        clear hfam hbel
        obtain ⟨k, hk, rfl, rfl, ⟨R, hfam⟩, hbel⟩ := hrel
        by_cases hlk : k < (g u).length
        · obtain ⟨ga, ca, hA, hga, hcA⟩ := hadj.cells hlt (by omega)
          have c1 := cell_keep hbel (Nat.le_refl _) (hadj.row.cell hlt)
          rw [hA] at c1
          have c2 := hcA k (by omega)
          rw [List.getElem?_map, List.getElem?_eq_getElem hlk] at c2
          have c3 := cell_keep hbel (Nat.le_refl _) c2
          simp only [I] at c3
          have c4 := hfam.row.cell hlt
          have c5 := hfam.row.frozen u
          clear c2
          obtain ⟨t, ht⟩ : ∃ t, t = (g u)[k] := ⟨_, rfl⟩
          rw [← ht] at c3
          have HT : Hid (t = (g u)[k]) := ht
          clear ht
          have i1 : (0 : Int) ≤ (u : Int) := by omega
          have i2 : (u : Int) < (n : Int) := by omega
          have i3 : (0 : Int) ≤ (k : Int) := by omega
          have i4 : (k : Int) < ((g u).length : Int) := by omega
          have hdu := hdeg u
          have hsz := hbel.size
          have hlE : (edgesTo g u k u).length ≤ 4294967296 := by simp [edgesTo]; omega
          have hro := hfam.own u hlt
          have d4 : ∀ o, (wr.alloc o).cell? ⟨w.heap.size, u, none⟩ = some (R u) := fun o => (hfam.alloc o).row.cell hlt
          have d4' : ∀ o o', ((wr.alloc o).alloc o').cell? ⟨w.heap.size, u, none⟩ = some (R u) := fun o o' => ((hfam.alloc o).alloc o').row.cell hlt
          have d1 : ∀ o, (wr.alloc o).cell? ⟨b, u, none⟩ = some (.slice (some ⟨ga, 0, none⟩) (g u).length ca) := fun o => cell_alloc_keep c1 o
          have d3 : ∀ o, (wr.alloc o).cell? ⟨ga, k, none⟩ = some (.int .i64 t) := fun o => cell_alloc_keep c3 o
          go_wp2
          go_region_law
            ((first
              | (refine step_append_lies _ (by rfl) (.tmp 29) (.tmp 38) 60 (by rfl) w.heap.size 63 i0 (.agg #[.int .i64 0, .int .i8 0, .string ⟨#[]⟩]) 3 32 Try.underlying60 hi hz0 hz1 hz2 rfl (by decide) (R u) (edgesTo g u k u).length ((edgesTo g u k u).flatMap edgeCells) (by rfl) (by exact (hro.alloc _).alloc _) _ 1 1 [.int .i64 t, .int .i8 0, .string ⟨#[]⟩] (by rfl) (by rfl) (by exact World.news_of_block (by exact two_new _ _ _)) (by intro x hx; simp at hx; rcases hx with rfl | rfl | rfl <;> rfl) (by decide) (by unfold maxLen; omega) (by omega) (by simp; omega) (wr.heap.size + 2) (by simp) ?_; intro g1 cap1 w1 hown hgrow hat hlt1; have hpack := hfam.grown hlt (fun q hq => two_old _ _ _ q hq) hown hgrow (by simpa using hat); obtain ⟨q3, q4, HF, HB⟩ := hpack; clear hown hgrow hat)
              | (go_simp; go_at_call 37; refine (newEdge _ _ _).mono ?_; rintro e w' ⟨rfl, rfl⟩)))
          all_goals
            go_wp2
            go_roundg ((g u).length - (k + 1))
            case measure => omega
            case rel =>
              refine ⟨k + 1, by omega, rfl, by go_num, ⟨_, HF.congr (fun _ _ => rfl) (fun i _ => ?_) (fun i _ => ?_)⟩, (HB _ (Nat.le_refl _) w ((hbel.alloc hsz _).alloc (by simp; omega) _).drew).setCell (Nat.le_refl _) _⟩
              · rw [edgesTo_step g u k hlk]
                by_cases e : i = u
                · subst e; simp [upd_same]
                · simp [upd_other _ _ _ _ e]
              · rw [edgesTo_step g u k hlk, ← HT.out]
                by_cases e : i = u
                · subst e; simp [upd_same, edgeCells]
                · simp [upd_other _ _ _ _ e]
        · have : k = (g u).length := by omega
          subst this
          have c1 := cell_keep hbel (Nat.le_refl _) (hadj.row.cell hlt)
          obtain ⟨ah, ch, hA⟩ := hadj.header hlt
          rw [hA] at c1
          go_wp2
          go_roundg (n - (u + 1))
          case measure => omega
          case rel => exact ⟨u + 1, by omega, rfl, by go_num, ⟨R, by rw [← edgesTo_next]; exact hfam⟩, hbel⟩
    · have : u = n := by omega
      subst this
      go_wp2
      go_ret
      exact ⟨rfl, ⟨R, hfam.congr (fun _ _ => rfl) (fun i hi => by simp [edgesTo, edgesOf, hi]) (fun i hi => by simp [edgesTo, edgesOf, hi])⟩, hbel⟩

end Go.Proofs.Qxb6600569a
