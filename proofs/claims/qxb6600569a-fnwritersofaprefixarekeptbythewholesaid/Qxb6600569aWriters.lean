/-
  'writers', 'ZZWriters', 'ZZWriterOf' walked.
-/
import Derived.Test.Qxb6600569aTxns
import Derived.Test.Qxb6600569aMapLaw
import Derived.Maps.OwnOps
namespace Go.Proofs.Qxb6600569a
open Go.RowKit
open Tj (upd upd_same upd_other)
set_option linter.unusedVariables false

theorem TxnsIs.keep {w wr : World} {B n : Nat} {O : Nat → List OpT} (h : TxnsIs w B n O) {B' : Nat} (hb : Below B' w wr) (hB : w.heap.size ≤ B') : TxnsIs wr B n O := by
  obtain ⟨bk, h1, h2⟩ := h
  exact ⟨bk, h1.of_block (hb.block _ (Nat.lt_of_lt_of_le h1.lt hB)), fun i hi => (h2 i hi).of_block (hb.block _ (Nat.lt_of_lt_of_le (h2 i hi).lt hB))⟩

/-- The six cells of transaction i. -/
theorem TxnsIs.txn {w : World} {B n : Nat} {O : Nat → List OpT} (h : TxnsIs w B n O) : ∃ bk : Nat → Nat, ∀ i, i < n →
    (w.cell? ⟨B, i * 6, none⟩ = some (.string ⟨#[]⟩) ∧ w.cell? ⟨B, i * 6 + 1, none⟩ = some (.string ⟨#[]⟩) ∧ w.cell? ⟨B, i * 6 + 2, none⟩ = some (.int .i64 0) ∧ w.cell? ⟨B, i * 6 + 3, none⟩ = some (.int .i64 0) ∧ w.cell? ⟨B, i * 6 + 4, none⟩ = some (.int .i8 0) ∧
      w.cell? ⟨B, i * 6 + 5, none⟩ = some (.slice (some ⟨bk i, 0, none⟩) (O i).length (O i).length)) ∧
    ∀ j (hj : j < (O i).length), w.cell? ⟨bk i, j * 3, none⟩ = some (.int .i8 (kindOf (O i)[j].wr)) ∧ w.cell? ⟨bk i, j * 3 + 1, none⟩ = some (.string (O i)[j].key) ∧ w.cell? ⟨bk i, j * 3 + 2, none⟩ = some (.int .i64 (O i)[j].ver) := by
  obtain ⟨bk, h1, h2⟩ := h
  refine ⟨bk, fun i hi => ⟨⟨?_, ?_, ?_, ?_, ?_, ?_⟩, fun j hj => ?_⟩⟩
  · exact rowIs_cellAt h1 hi (show 0 < 6 by omega)
  · exact rowIs_cellAt h1 hi (show 1 < 6 by omega)
  · exact rowIs_cellAt h1 hi (show 2 < 6 by omega)
  · exact rowIs_cellAt h1 hi (show 3 < 6 by omega)
  · exact rowIs_cellAt h1 hi (show 4 < 6 by omega)
  · have := rowIs_cellAt h1 hi (show 5 < 6 by omega)
    simpa [txnsC, txnCell, hi] using this
  · have e : opAt (O i) j = (O i)[j] := by simp [opAt, List.getD, hj]
    have k0 := rowIs_cellAt (h2 i hi) hj (show 0 < 3 by omega)
    have k1 := rowIs_cellAt (h2 i hi) hj (show 1 < 3 by omega)
    have k2 := rowIs_cellAt (h2 i hi) hj (show 2 < 3 by omega)
    simp only [e] at k0 k1 k2
    exact ⟨k0, k1, k2⟩

theorem run_makeMap_hint (x : Int) (w : World) : (Instr.makeMap 34 (some (.int .i64 x))).run Try.prog w = .ok (.map (some w.heap.size)) (w.alloc (.map #[] 0)) := by
  simp [Instr.makeMap, go_sem, asInt, asIntOf]

theorem Below.drewN'' {B : Nat} {w wr : World} (h : Below B w wr) (k : Nat) : Below B w (wr.drewN k) := ⟨h.os, h.tape, h.output, h.size, h.block⟩

structure WritersPost (w : World) (L : List ((ByteArray × Int) × (Nat × Nat))) (e : Ending) (w' : World) : Prop where
  out : ∃ bm, e = .returned (.map (some bm)) ∧ MapIs w' bm L ∧ w.heap.size ≤ bm
  below : Below w.heap.size w w'

set_option maxHeartbeats 1000000 in
set_option maxRecDepth 100000 in
theorem writers_any (B n nn cap : Nat) (O : Nat → List OpT) (w : World) (hn : nn ≤ n) (hn6 : n ≤ 65536) (hT : TxnsIs w B n O) (hO : ∀ i, (O i).length ≤ 65536) :
    Calls Try.prog 35 #[.slice (some ⟨B, 0, none⟩) nn cap] w (WritersPost w (wto O nn)) := by
  have hmm := run_makeMap_hint
  obtain ⟨bk, hcell⟩ := hT.txn
  have HC : Hid (∀ i, i < n → _) := hcell
  clear hcell
  go_enter Try.func35, Try.ntmps35
  go_wp2
  go_loopg [18, 3] nn (fun q i c wr => ∃ t : Nat, t ≤ nn ∧ q = nn - t ∧ i = .int .i64 t ∧ (∃ x, c = .int .i64 x) ∧ Below w.heap.size w wr)
  case atStart => exact ⟨0, Nat.zero_le _, rfl, rfl, ⟨_, rfl⟩, Below.refl _ _⟩
  case round =>
    obtain ⟨t, ht, rfl, rfl, ⟨x, rfl⟩, hbel⟩ := hrel
    by_cases hlt : t < nn
    · obtain ⟨⟨k0, k1, k2, k3, k4, k5⟩, hops⟩ := HC.out t (by omega)
      have k0 := cell_keep hbel (Nat.le_refl _) k0
      have k1 := cell_keep hbel (Nat.le_refl _) k1
      have k2 := cell_keep hbel (Nat.le_refl _) k2
      have k3 := cell_keep hbel (Nat.le_refl _) k3
      have k4 := cell_keep hbel (Nat.le_refl _) k4
      have k5 := cell_keep hbel (Nat.le_refl _) k5
      have HOP : Hid (∀ j (hj : j < (O t).length), w.cell? ⟨bk t, j * 3, none⟩ = some (.int .i8 (kindOf (O t)[j].wr)) ∧ w.cell? ⟨bk t, j * 3 + 1, none⟩ = some (.string (O t)[j].key) ∧ w.cell? ⟨bk t, j * 3 + 2, none⟩ = some (.int .i64 (O t)[j].ver)) := hops
      clear hops
      have hol := hO t
      have hsz := hbel.size
      have S0 : Below w.heap.size w (wr.alloc (.cells #[.string ⟨#[]⟩, .string ⟨#[]⟩, .int .i64 0, .int .i64 0, .int .i8 0, .slice (some ⟨bk t, 0, none⟩) (O t).length (O t).length] 40)) := hbel.alloc hsz _
      go_wp2
      go_loopg [25, 3] (O t).length (fun q j c wr => ∃ jj : Nat, jj ≤ (O t).length ∧ q = (O t).length - jj ∧ j = .int .i64 jj ∧ (∃ x, c = .int .i64 x) ∧ Below w.heap.size w wr)
      case atStart => exact ⟨0, Nat.zero_le _, rfl, rfl, ⟨_, rfl⟩, S0⟩
      case round =>
        clear S0 hbel k0 k1 k2 k3 k4 k5 hsz
        obtain ⟨j, hj, rfl, rfl, ⟨x, rfl⟩, hbel⟩ := hrel
        have hsz := hbel.size
        by_cases hlj : j < (O t).length
        · obtain ⟨y0, y1, y2⟩ := HOP.out j hlj
          have y0 := cell_keep hbel (Nat.le_refl _) y0
          have y1 := cell_keep hbel (Nat.le_refl _) y1
          have y2 := cell_keep hbel (Nat.le_refl _) y2
          obtain ⟨o, ho⟩ : ∃ o, o = (O t)[j] := ⟨_, rfl⟩
          rw [← ho] at y0 y1 y2
          clear ho
          go_wp2
          all_goals
            go_roundg ((O t).length - (j + 1))
            case measure => omega
            case rel => exact ⟨j + 1, by omega, rfl, by go_num, ⟨_, rfl⟩, hbel.alloc hsz _⟩
        · go_wp2
          go_roundg (nn - (t + 1))
          case measure => omega
          case rel => exact ⟨t + 1, by omega, rfl, by go_num, ⟨_, rfl⟩, hbel⟩
    · have hsz := hbel.size
      obtain ⟨bm, hbm⟩ : ∃ bm, wr.heap.size = bm := ⟨_, rfl⟩
      have hbw : w.heap.size ≤ bm := by omega
      have S0 : Below w.heap.size w (wr.alloc (.map #[] 0)) := hbel.alloc hsz _
      have S1 : MapIs (wr.alloc (.map #[] 0)) bm [] := ⟨#[], 0, by rw [← hbm]; exact heap_alloc_new wr _, rfl⟩
      go_wp2
      clear hbel
      generalize (wr.alloc (.map #[] 0)) = W0 at S0 S1 ⊢
      clear hbm hsz
      go_loopg [40] nn (fun q i wr => ∃ t : Nat, t ≤ nn ∧ q = nn - t ∧ i = .int .i64 t ∧ MapIs wr bm (wto O t) ∧ Below w.heap.size w wr)
      case atStart => exact ⟨0, Nat.zero_le _, rfl, rfl, S1, S0⟩
      case round =>
        clear S0 S1
        obtain ⟨t, ht, rfl, rfl, hmap, hbel⟩ := hrel
        by_cases hlt : t < nn
        · obtain ⟨⟨k0, k1, k2, k3, k4, k5⟩, hops⟩ := HC.out t (by omega)
          have k0 := cell_keep hbel (Nat.le_refl _) k0
          have k1 := cell_keep hbel (Nat.le_refl _) k1
          have k2 := cell_keep hbel (Nat.le_refl _) k2
          have k3 := cell_keep hbel (Nat.le_refl _) k3
          have k4 := cell_keep hbel (Nat.le_refl _) k4
          have k5 := cell_keep hbel (Nat.le_refl _) k5
          have HOP : Hid (∀ j (hj : j < (O t).length), w.cell? ⟨bk t, j * 3, none⟩ = some (.int .i8 (kindOf (O t)[j].wr)) ∧ w.cell? ⟨bk t, j * 3 + 1, none⟩ = some (.string (O t)[j].key) ∧ w.cell? ⟨bk t, j * 3 + 2, none⟩ = some (.int .i64 (O t)[j].ver)) := hops
          clear hops
          have hol := hO t
          have hsz := hbel.size
          have S0 : Below w.heap.size w (wr.alloc (.cells #[.string ⟨#[]⟩, .string ⟨#[]⟩, .int .i64 0, .int .i64 0, .int .i8 0, .slice (some ⟨bk t, 0, none⟩) (O t).length (O t).length] 40)) := hbel.alloc hsz _
          have S1 : MapIs (wr.alloc (.cells #[.string ⟨#[]⟩, .string ⟨#[]⟩, .int .i64 0, .int .i64 0, .int .i8 0, .slice (some ⟨bk t, 0, none⟩) (O t).length (O t).length] 40)) bm (wat O t 0) := hmap.alloc _
          go_wp2
          clear hbel k0 k1 k2 k3 k4 k5 hsz hmap
          generalize (wr.alloc (.cells #[.string ⟨#[]⟩, .string ⟨#[]⟩, .int .i64 0, .int .i64 0, .int .i8 0, .slice (some ⟨bk t, 0, none⟩) (O t).length (O t).length] 40)) = W1 at S0 S1 ⊢
          go_loopg [48] (O t).length (fun q j wr => ∃ jj : Nat, jj ≤ (O t).length ∧ q = (O t).length - jj ∧ j = .int .i64 jj ∧ MapIs wr bm (wat O t jj) ∧ Below w.heap.size w wr)
          case atStart => exact ⟨0, Nat.zero_le _, rfl, rfl, S1, S0⟩
          case round =>
            clear S0 S1
            obtain ⟨j, hj, rfl, rfl, hmap, hbel⟩ := hrel
            have hsz := hbel.size
            by_cases hlj : j < (O t).length
            · obtain ⟨y0, y1, y2⟩ := HOP.out j hlj
              have y0 := cell_keep hbel (Nat.le_refl _) y0
              have y1 := cell_keep hbel (Nat.le_refl _) y1
              have y2 := cell_keep hbel (Nat.le_refl _) y2
              have hst := wat_step O t j hlj
              obtain ⟨o, ho⟩ : ∃ o, o = (O t)[j] := ⟨_, rfl⟩
              rw [← ho] at y0 y1 y2 hst
              clear ho
              obtain ⟨wr', key, ver⟩ := o
              simp only [] at y0 y1 y2
              obtain ⟨L, hL⟩ : ∃ L, L = wat O t j := ⟨_, rfl⟩
              rw [← hL] at hst hmap
              have HST : Hid (wat O t (j + 1) = wstep t j ⟨wr', key, ver⟩ L) := hst
              clear hst hL
              cases hl : look (key, ver) L with
              | some r =>
                have e1 : wat O t (j + 1) = L := by rw [HST.out]; unfold wstep OpT.kv; rw [if_neg (fun h => by simp [hl] at h)]
                have HE : Hid (wat O t (j + 1) = L) := e1
                clear e1 HST
                cases wr'
                all_goals
                  simp only [kindOf, if_true, if_false, Bool.false_eq_true] at y0
                  go_wp2_with (at_lookup; refine wpList_lookup_kv _ rfl (.tmp 59) (.tmp 60) rfl bm L rfl (by exact (hmap.alloc _).alloc _) key ver rfl ?_)
                  go_roundg ((O t).length - (j + 1))
                  case measure => omega
                  case rel => exact ⟨j + 1, by omega, rfl, by go_num, by rw [HE.out]; exact ((hmap.alloc _).alloc _).alloc _, ((hbel.alloc hsz _).alloc (by simp; omega) _).alloc (by simp; omega) _⟩
              | none =>
                cases wr'
                · have e1 : wat O t (j + 1) = L := by rw [HST.out]; unfold wstep; rw [if_neg (fun h => by simp at h)]
                  have HE : Hid (wat O t (j + 1) = L) := e1
                  clear e1 HST
                  simp only [kindOf, if_false, Bool.false_eq_true] at y0
                  go_wp2_with (at_lookup; refine wpList_lookup_kv _ rfl (.tmp 59) (.tmp 60) rfl bm L rfl (by exact (hmap.alloc _).alloc _) key ver rfl ?_)
                  go_roundg ((O t).length - (j + 1))
                  case measure => omega
                  case rel => exact ⟨j + 1, by omega, rfl, by go_num, by rw [HE.out]; exact ((hmap.alloc _).alloc _).alloc _, ((hbel.alloc hsz _).alloc (by simp; omega) _).alloc (by simp; omega) _⟩
                · have e1 : wat O t (j + 1) = L ++ [((key, ver), (t, j))] := by rw [HST.out]; unfold wstep OpT.kv; rw [if_pos ⟨rfl, hl⟩]
                  have HE : Hid (wat O t (j + 1) = L ++ [((key, ver), (t, j))]) := e1
                  clear e1 HST
                  simp only [kindOf, if_true] at y0
                  go_wp2_with (first
                    | (at_lookup; refine wpList_lookup_kv _ rfl (.tmp 59) (.tmp 60) rfl bm L rfl (by exact (hmap.alloc _).alloc _) key ver rfl ?_)
                    | (at_mapUpdate; refine wpList_update_kv _ rfl (.tmp 71) (.tmp 72) (.tmp 75) rfl bm L rfl (by exact ((hmap.alloc _).alloc _).alloc _) key ver t j hl rfl rfl ?_; intro w2 hm2 hg2))
                  go_roundg ((O t).length - (j + 1))
                  case measure => omega
                  case rel => exact ⟨j + 1, by omega, rfl, by go_num, by rw [HE.out]; exact hm2, (((hbel.alloc hsz _).alloc (by simp; omega) _).alloc (by simp; omega) _).grown hg2 (by simp; omega) (fun k hk => by cases hk; exact hbw)⟩
            · go_wp2
              go_roundg (nn - (t + 1))
              case measure => omega
              case rel =>
                have : j = (O t).length := by omega
                subst this
                exact ⟨t + 1, by omega, rfl, by go_num, by rw [← wat_full]; exact hmap, hbel⟩
        · have : nn = t := by omega
          subst this
          go_wp2
          go_ret
          exact ⟨⟨bm, rfl, hmap, hbw⟩, hbel⟩

theorem zzwriters_any (B n nn cap : Nat) (O : Nat → List OpT) (w : World) (hn : nn ≤ n) (hn6 : n ≤ 65536) (hT : TxnsIs w B n O) (hO : ∀ i, (O i).length ≤ 65536) :
    Calls Try.prog 16 #[.slice (some ⟨B, 0, none⟩) nn cap] w (WritersPost w (wto O nn)) := by
  have HH : Hid (Calls Try.prog 35 #[.slice (some ⟨B, 0, none⟩) nn cap] w (WritersPost w (wto O nn))) := writers_any B n nn cap O w hn hn6 hT hO
  clear hT hO
  go_enter Try.func16, Try.ntmps16
  go_wp2_with (go_at_call 35; refine HH.out.mono ?_; rintro e w' ⟨⟨bm, rfl, hm, hb⟩, hbel⟩)
  go_ret
  exact ⟨⟨bm, rfl, hm, hb⟩, hbel⟩

structure WriterOfPost (w : World) (o : Option (Nat × Nat)) (e : Ending) (w' : World) : Prop where
  ret : e = .returned (.tuple #[.int .i64 (o.getD (0, 0)).1, .int .i64 (o.getD (0, 0)).2, .bool o.isSome])
  below : Below w.heap.size w w'

set_option maxHeartbeats 400000 in
theorem writerOf_any (bm : Nat) (L : List ((ByteArray × Int) × (Nat × Nat))) (key : ByteArray) (ver : Int) (w : World) (hm : MapIs w bm L) :
    Calls Try.prog 17 #[.map (some bm), .string key, .int .i64 ver] w (WriterOfPost w (look (key, ver) L)) := by
  obtain ⟨o, ho⟩ : ∃ o, look (key, ver) L = o := ⟨_, rfl⟩
  rw [ho]
  go_enter Try.func17, Try.ntmps17
  go_wp2_with (at_lookup; refine wpList_lookup_kv _ rfl (.tmp 12) (.tmp 15) rfl bm L rfl hm key ver rfl ?_)
  go_quiet (fail)
  go_wp2
  go_ret3
  exact ⟨rfl, Below.drewN'' ((Below.refl _ w).alloc (Nat.le_refl _) _) _⟩

end Go.Proofs.Qxb6600569a
