/-
  REAL TIME: slices.Sort, Compact, BinarySearch at []int64: the shelf's contracts, laid at this program.
-/
import Derived.Test.Qxb6600569aRtMem
import Derived.Shelf.SortM.AssemblyIn
import Derived.Shelf.SortM.SortNone
import Derived.Shelf.SlicesG.CompactI
import Derived.Shelf.SlicesG.SearchI
import Derived.Sort.EveryDepth
import Derived.Ground.SlgmProg
import Derived.Ground.SlgnProg
import Derived.Shelf.Lay
namespace Go.Proofs
open Go.Proofs.Qxb6600569a
shelf_lay_g SlLaysM.n5 Slgm 5 at Try 39 as Try.sortLaid
shelf_lay_g SlLaysN.n43 Slgn 43 at Try 40 as Try.compactLaid
shelf_lay_g SlLaysN.n49 Slgn 49 at Try 41 as Try.searchLaid
end Go.Proofs
namespace Go.Proofs.Qxb6600569a
open Go.RowKit Go.Sort
set_option linter.unusedVariables false

structure SortPost (w : World) (base : Nat) (v : Value) (zs : List Int) (e : Ending) (w' : World) : Prop where
  ret : e = .returned (.tuple #[])
  own : w'.ownsRow base 2 1 v zs.length ((Rt.sorted zs).map I64)
  grown : w.grownBy w' v.ownBlock

theorem sort_any (w : World) (base : Nat) (v : Value) (zs : List Int) (hrow : w.ownsRow base 2 1 v zs.length (zs.map I64)) (hl : zs.length ≤ 4294967296) :
    Calls Try.prog 39 #[v] w (SortPost w base v zs) := by
  rcases hrow.2 with ⟨rfl, hz⟩ | ⟨g, cap, cur, rfl, hbase, hgb, r1, r2, r3, r4⟩
  · have hss : zs = [] := List.eq_nil_of_length_eq_zero hz
    subst hss
    refine (AnyM.slices_Sort_int_none Try.sortLaid none 0 w).mono ?_
    rintro e w' ⟨rfl, rfl⟩
    exact ⟨rfl, by simpa [Rt.sorted] using hrow, ⟨rfl, rfl, rfl, Nat.le_refl _, fun _ _ _ => rfl⟩⟩
  · have hH := holds_ints hgb (by simpa using r4)
    have hgl : g < w.heap.size := (Array.getElem?_eq_some_iff.1 hgb).1
    refine (calls_of_every_depth fun D => AnySM.slices_Sort_int_in Try.sortLaid D g 0 cap zs w hH hgl (by omega)).mono ?_
    rintro e w' ⟨rfl, n, os, rfl⟩
    exact ⟨rfl, ownsRow_put (by simp) hbase hgb r1 r2 r3, grownBy_put _⟩

structure CompactPost (w : World) (v : Value) (zs : List Int) (e : Ending) (w' : World) : Prop where
  ret : ∃ v', e = .returned v' ∧ TimesIs w' v' (Lib.compact zs) ∧ v'.ownBlock = v.ownBlock
  grown : w.grownBy w' v.ownBlock

theorem compact_any (w : World) (base : Nat) (v : Value) (zs : List Int) (hrow : w.ownsRow base 2 1 v zs.length (zs.map I64)) (hl : zs.length ≤ 4294967296) :
    Calls Try.prog 40 #[v] w (CompactPost w v zs) := by
  rcases hrow.2 with ⟨rfl, hz⟩ | ⟨g, cap, cur, rfl, hbase, hgb, r1, r2, r3, r4⟩
  · have hss : zs = [] := List.eq_nil_of_length_eq_zero hz
    subst hss
    refine (AnyG.slices_Compact_int_empty Try.compactLaid none 0 w).mono ?_
    rintro e w' ⟨rfl, rfl⟩
    exact ⟨⟨_, rfl, ⟨none, 0, rfl, fun j h => absurd h (Nat.not_lt_zero _)⟩, rfl⟩, ⟨rfl, rfl, rfl, Nat.le_refl _, fun _ _ _ => rfl⟩⟩
  · have hH := holds_ints hgb (by simpa using r4)
    refine (AnyG.slices_Compact_int Try.compactLaid g 0 cap zs w hH (by omega) r1).mono ?_
    rintro e w' ⟨rfl, q, rfl⟩
    have hle := Rt.compact_length zs
    rw [← grow_empty (putRow (Value.int .i64) (Sort.ahead w q) g 0 _)]
    refine ⟨⟨_, rfl, ⟨_, cap, rfl, fun j h => ⟨g, rfl, ?_⟩⟩, rfl⟩, grownBy_put _⟩
    have hbl := heap_put (n := q) (os := #[]) (Lib.compact zs ++ List.replicate (zs.length - (Lib.compact zs).length) 0).toArray hgb
    have hg := put_get cur (Lib.compact zs ++ List.replicate (zs.length - (Lib.compact zs).length) 0) (by simp; omega) (j := j) (by simp; omega)
    simp only [World.cell?, hbl]
    simp only [Option.isSome_none, Bool.false_eq_true, if_false]
    rw [hg, List.getElem_append_left h]

theorem search_any (w : World) (v : Value) (L : List Int) (x : Int) (ht : TimesIs w v L) (h0 : 0 < L.length) (hl : L.length ≤ 4294967296) (hp : L.Pairwise (· < ·)) :
    Calls Try.prog 41 #[v, .int .i64 x] w fun e w' => e = .returned (.tuple #[.int .i64 (Rt.cnt L x), .bool (L.contains x)]) ∧ ∃ q, w' = w.drewN q := by
  obtain ⟨a, cap, rfl, hc⟩ := ht.out
  obtain ⟨g, rfl, _⟩ := hc 0 h0
  have h := AnyG.slices_BinarySearch_int Try.searchLaid g 0 L.length cap L x w (Nat.le_refl _) (by omega) (by
    intro j hj
    obtain ⟨g', e, hcell⟩ := hc j hj
    cases e
    rw [Nat.zero_add, hcell]
    simp [hj]) (by rw [List.take_length]; exact hp.imp (fun h => Int.le_of_lt h))
  rw [List.take_length] at h
  exact h

end Go.Proofs.Qxb6600569a
