/-
  'zzAdjacency': the edge list as adjacency lists.
-/
import Derived.Test.Qxb6600569aBase
import Derived.Test.Qxb6600569aFam
namespace Go.Proofs.Qxb6600569a
open Go.RowKit
open Tj (upd upd_same upd_other)
set_option linter.unusedVariables false

/-- The lists after k edges. -/
def adjTo (n : Nat) (f t : Nat → Nat) : Nat → Nat → List Nat
  | 0 => fun _ => []
  | k + 1 => upd (adjTo n f t k) (f k % n) (adjTo n f t k (f k % n) ++ [t k % n])

theorem adjTo_len (n : Nat) (f t : Nat → Nat) (k u : Nat) : (adjTo n f t k u).length ≤ k := by
  induction k with
  | zero => simp [adjTo]
  | succ k ih =>
    simp only [adjTo]
    by_cases e : u = f k % n
    · subst e; rw [upd_same]; simp; exact ih
    · rw [upd_other _ _ _ _ e]; omega

theorem adjTo_lt (n : Nat) (f t : Nat → Nat) (hn : 0 < n) (k u : Nat) : ∀ v ∈ adjTo n f t k u, v < n := by
  induction k with
  | zero => simp [adjTo]
  | succ k ih =>
    simp only [adjTo]
    by_cases e : u = f k % n
    · subst e; rw [upd_same]
      intro v hv
      rcases List.mem_append.1 hv with hv | hv
      · exact ih v hv
      · simp at hv; subst hv; exact Nat.mod_lt _ hn
    · rw [upd_other _ _ _ _ e]; exact ih

/-- A number as the cell of an int. -/
def I (v : Nat) : Value := .int .i64 v

/-- ADJACENCY LISTS IN MEMORY: a slice of slices of ints that some call made. -/
structure AdjIs (w : World) (base b n : Nat) (g : Nat → List Nat) : Prop where
  fam : ∃ R, Fam w base b 59 3 1 n R (fun u => (g u).length) (fun u => (g u).map I)

/-- What 'zzAdjacency' leaves. -/
structure AdjPost (w : World) (n : Nat) (g : Nat → List Nat) (e : Ending) (w' : World) : Prop where
  ret : e = .returned (.slice (some ⟨w.heap.size, 0, none⟩) n n)
  adj : AdjIs w' w.heap.size w.heap.size n g
  below : Below w.heap.size w w'

/-- The adjacency lists of an edge list. -/
def adjOf (n : Nat) (f t : Nat → Nat) (m : Nat) : Nat → List Nat := adjTo n f t (if n = 0 then 0 else m)

theorem Try.info3 : (Try.prog.info? 3).map (fun i => (i.zero, i.size, i.bytes)) = some (some (.int .i64 0), 1, 8) := by kernel_rfl
theorem Try.info59 : (Try.prog.info? 59).map (fun i => (i.zero, i.size, i.bytes)) = some (some (.slice none 0 0), 1, 24) := by kernel_rfl

set_option maxHeartbeats 400000 in
set_option maxRecDepth 100000 in
theorem adj_any (n : Nat) (a1 a2 : Option Addr) (l1 c1 l2 c2 : Nat) (f t : Nat → Nat) (w : World) (hn : n ≤ 65536) (h1 : l1 ≤ 65536) (h2 : l2 ≤ 65536)
    (r1 : Rd w a1 l1 (fun j => .int .u16 (f j))) (r2 : Rd w a2 l2 (fun j => .int .u16 (t j))) (b1 : ∀ j, f j ≤ 65535) (b2 : ∀ j, t j ≤ 65535) :
    Calls Try.prog 23 #[.int .i64 n, .slice a1 l1 c1, .slice a2 l2 c2] w (AdjPost w n (adjOf n f t (min l1 l2))) := by
  have hmk := run_make_row' (P := Try.prog) 52 59 (.slice none 0 0) 24 Try.underlying52 Try.info59 rfl .i64 .i64 n (by omega) (by omega)
  obtain ⟨i0, hi, hz0, hz1, hz2⟩ := info_parts Try.info3
  by_cases h0 : n = 0
  · have hne : ((n : Int) == 0) = true := by simp; omega
    have H0 : Hid (n = 0) := h0
    clear h0
    go_enter Try.func23, Try.ntmps23
    go_wp2
    go_ret
    have e0 : adjOf n f t (min l1 l2) = adjTo n f t 0 := by unfold adjOf; rw [if_pos H0.out]
    rw [e0]
    exact ⟨rfl, ⟨fun _ => .slice none 0 0, Fam.made w w.heap.size 59 3 1 n (Nat.le_refl _)⟩, (Below.refl _ w).alloc (Nat.le_refl _) _⟩
  · have hn0 : 0 < n := by omega
    have hne : ((n : Int) == 0) = false := by simp; omega
    obtain ⟨m, hm, hm1, hm2⟩ : ∃ m, m = min l1 l2 ∧ m ≤ l1 ∧ m ≤ l2 := ⟨_, rfl, by omega, by omega⟩
    have HM : Hid (m = min l1 l2) := hm
    clear hm
    have HR1 : Hid (Rd w a1 l1 (fun j => .int .u16 (f j))) := r1
    have HR2 : Hid (Rd w a2 l2 (fun j => .int .u16 (t j))) := r2
    clear r1 r2
    go_enter Try.func23, Try.ntmps23
    go_wp2_with (go_at_call 20; refine (min2_nat _ _ m HM.out _).mono ?_; rintro e w' ⟨rfl, rfl⟩)
    go_loopg [9] m (fun g i wr => ∃ k : Nat, k ≤ m ∧ g = m - k ∧ i = .int .i64 k ∧ AdjIs wr w.heap.size w.heap.size n (adjTo n f t k) ∧ Below w.heap.size w wr)
    case atStart => exact ⟨0, Nat.zero_le _, rfl, rfl, ⟨_, Fam.made w w.heap.size 59 3 1 n (Nat.le_refl _)⟩, (Below.refl _ _).alloc (Nat.le_refl _) _⟩
    case round =>
      obtain ⟨k, hk, rfl, rfl, ⟨R, hfam⟩, hbel⟩ := hrel
      by_cases hlt : k < m
      · obtain ⟨ba, oa, e, g1⟩ := HR1.out k (by omega)
        obtain ⟨bb, ob, e', g2⟩ := HR2.out k (by omega)
        subst e e'
        have g1' := cell_keep hbel (Nat.le_refl _) g1
        have g2' := cell_keep hbel (Nat.le_refl _) g2
        clear g1 g2
        have hb1 := b1 k
        have hb2 := b2 k
        have hu : f k % n < n := Nat.mod_lt _ hn0
        have g3 := hfam.row.cell hu
        have g4 := hfam.row.frozen (f k % n)
        have hlen := adjTo_len n f t k (f k % n)
        have hsz := hbel.size
        go_wp2_with (at_builtin; refine wpList_append_lies _ rfl (.tmp 46) (.tmp 48) 59 rfl w.heap.size 3 i0 (.int .i64 0) 1 8 Try.underlying59 hi hz0 hz1 hz2 rfl (by decide) (R (f k % n)) (adjTo n f t k (f k % n)).length ((adjTo n f t k (f k % n)).map I) rfl ((hfam.own _ hu).alloc _) ⟨wr.heap.size, 0, none⟩ 1 1 [.int .i64 (((t k % n : Nat) : Int))] rfl rfl (cell_one_new _ _ _) ?h1 (by decide) ?h2 ?h3 ?h4 (wr.heap.size + 1) (by simp) ?_)
        case h1 => rfl
        case h2 => unfold maxLen; omega
        case h3 => omega
        case h4 => omega
        intro g cap w1 hown hgrow hat hlt1
        have hfa := hfam.alloc (.cells #[.int .i64 ((t k : Int) % (n : Int))] 3)
        have hrow1 := hfa.row.of_block (hgrow.block w.heap.size hfa.row.lt (fun e => hfa.off _ hu e.symm))
        have q3 := hrow1.cell hu
        have q4 := hrow1.frozen (f k % n)
        have R1 : Hid (AdjIs (w1.setCell ⟨w.heap.size, f k % n, none⟩ (.slice (some ⟨g, 0, none⟩) ((adjTo n f t k (f k % n)).length + 1) cap)) w.heap.size w.heap.size n (adjTo n f t (k + 1))) :=
          ⟨_, (hfa.appended hu hown hgrow (by simpa using hat)).congr (fun _ _ => rfl) (fun i _ => by
              simp only [adjTo]
              by_cases e : i = f k % n
              · subst e; simp [upd_same]
              · simp [upd_other _ _ _ _ e]) (fun i _ => by
              simp only [adjTo]
              by_cases e : i = f k % n
              · subst e; simp [upd_same, I]
              · simp [upd_other _ _ _ _ e])⟩
        have hbel1 : Below w.heap.size w w1 := (hbel.alloc hsz (.cells #[.int .i64 ((t k : Int) % (n : Int))] 3)).grown hgrow (by simp; omega) (fun j hj => ((hfam.own _ hu).lt j hj).1)
        clear hown hgrow hat g3 g4 g1' g2' hfa hrow1
        go_wp2
        go_roundg (m - (k + 1))
        case measure => omega
        case rel => exact ⟨k + 1, by omega, rfl, by go_num, R1.out, hbel1.setCell (Nat.le_refl _) _⟩
      · have : k = m := by omega
        subst this
        go_wp2
        go_ret
        refine ⟨rfl, ?_, hbel⟩
        unfold adjOf
        rw [if_neg (by omega), ← HM.out]
        exact ⟨R, hfam⟩

end Go.Proofs.Qxb6600569a
