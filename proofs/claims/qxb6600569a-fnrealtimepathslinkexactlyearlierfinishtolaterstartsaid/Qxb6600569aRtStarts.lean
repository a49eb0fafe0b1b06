/-
  'withRealTime': the walk.
-/
import Derived.Test.Qxb6600569aRtLib
import Derived.Test.Qxb6600569aRtTxns
import Derived.Test.Qxb6600569aRtIx
import Derived.Test.Qxb6600569aRtGraph
import Derived.Test.Qxb6600569aRtPush
import Derived.Deep.AppendLies
import Derived.Deep.CutRange
namespace Go.Proofs.Qxb6600569a
open Go.RowKit
set_option linter.unusedVariables false

structure RealPost (w : World) (base n : Nat) (s f : Nat → Int) (c : Nat → Bool) (G : Nat → List (Nat × Int)) (e : Ending) (w' : World) : Prop where
  out : ∃ b' cap M, e = .returned (.slice (some ⟨b', 0, none⟩) (n + (Rt.times s c n).length) cap) ∧ n + (Rt.times s c n).length ≤ M ∧ GraphIs w' base b' M (Rt.rowsEnd n s f c (Rt.times s c n) G ((Rt.times s c n).length - 1))
  below : Below base w w'

/-- The rows in memory, and the times, somewhere on the way. -/
structure AtG (w : World) (base n D : Nat) (E : Nat → List (Nat × Int)) (v2 : Value) (L : List Int) (s1 : Value) (wx : World) : Prop where
  out : ∃ b' M cap R, s1 = .slice (some ⟨b', 0, none⟩) (n + D) cap ∧ n + D ≤ M ∧ RowsAt wx base b' M E v2 R
  times : TimesIs wx v2 L
  below : Below w.heap.size w wx
  big : base ≤ wx.heap.size

set_option maxHeartbeats 2000000 in
set_option maxRecDepth 100000 in
theorem realTime (base X T b n : Nat) (s f : Nat → Int) (c : Nat → Bool) (G : Nat → List (Nat × Int)) (w : World) (hn : n ≤ 65536) (hX : w.cell? ⟨X, 0, none⟩ = some (.slice (some ⟨T, 0, none⟩) n n)) (hT : w.rowIs T 40 (n * 6) (wide 6 (rtAll s f c))) (hTb : T < base)
    (hg : GraphIs w base b n G) (hdeg : ∀ v, (G v).length ≤ 4294967296) :
    Calls Try.prog 36 #[.pointer (some ⟨X, 0, none⟩), .slice (some ⟨b, 0, none⟩) n n] w (RealPost w base n s f c G) := by
  obtain ⟨i2, hi2, hz20, hz21, hz22⟩ := info_parts Try.info2
  go_enter Try.func36, Try.ntmps36
  go_wp2
  go_loopg [5, 7, 21] n (fun q v p i wr => ∃ k : Nat, k ≤ n ∧ q = n - k ∧ i = .int .i64 k ∧ wr.ownsRow w.heap.size 2 1 v (Rt.startsTo s c k).length ((Rt.startsTo s c k).map I64) ∧ Below w.heap.size w wr)
  case atStart => exact ⟨0, Nat.zero_le _, rfl, rfl, by simpa [Rt.startsTo] using World.ownsRow_nil _ _ _ _, Below.refl _ _⟩
  case round =>
    obtain ⟨k, hk, rfl, rfl, hown, hbel⟩ := hrel
    by_cases hlt : k < n
    · have x0 := cell_keep hbel (Nat.le_refl _) (rowIs_cellAt hT hlt (j := 0) (by omega))
      rw [Nat.add_zero] at x0
      have x1 := cell_keep hbel (Nat.le_refl _) (rowIs_cellAt hT hlt (j := 1) (by omega))
      have x2 := cell_keep hbel (Nat.le_refl _) (rowIs_cellAt hT hlt (j := 2) (by omega))
      have x3 := cell_keep hbel (Nat.le_refl _) (rowIs_cellAt hT hlt (j := 3) (by omega))
      have x4 := cell_keep hbel (Nat.le_refl _) (rowIs_cellAt hT hlt (j := 4) (by omega))
      have x5 := cell_keep hbel (Nat.le_refl _) (rowIs_cellAt hT hlt (j := 5) (by omega))
      simp only [rtAll, rtCell] at x0 x1 x2 x3 x4 x5
      simp at x0 x1 x2 x3 x4 x5
      cases hc : c k with
      | true =>
        simp [hc] at x4
        have hlen := Rt.startsTo_length s c k
        have hsz := hbel.size
        have hnew : ∀ o o', ((wr.alloc o).alloc o').heap[wr.heap.size + 1]? = some o' := fun o o' => by
          have := heap_alloc_new (wr.alloc o) o'
          rw [World.size_alloc] at this
          exact this
        go_wp2_with (at_builtin; refine wpList_append_lies _ rfl (.tmp 28) (.tmp 31) 25 rfl w.heap.size 2 i2 (.int .i64 0) 1 8 Try.underlying25 hi2 hz20 hz21 hz22 rfl (by decide) _ (Rt.startsTo s c k).length ((Rt.startsTo s c k).map I64) rfl ((hown.alloc _).alloc _) ⟨wr.heap.size + 1, 0, none⟩ 1 1 [.int .i64 (s k)] rfl rfl (World.news_of_block (hnew _ _)) ?h1 (by decide) ?h2 ?h3 ?h4 (wr.heap.size + 2) (by simp) ?_)
        case h1 => intro x hx; simp at hx; subst hx; rfl
        case h2 => unfold maxLen; omega
        case h3 => omega
        case h4 => simp; omega
        intro g1 cap1 w1 hown1 hgrow hat hlt1
        have hbel1 : Below w.heap.size w w1 := ((hbel.alloc hsz _).alloc (by simp; omega) _).grown hgrow (by simp; omega) (fun j hj => (hown.lt j hj).1)
        have E1 : Hid (Rt.startsTo s c (k + 1) = Rt.startsTo s c k ++ [s k]) := by rw [Rt.startsTo_succ, hc]; rfl
        clear hown hbel hgrow hat hlt1 hnew
        go_wp2
        go_roundg (n - (k + 1))
        case measure => omega
        case rel => exact ⟨k + 1, by omega, rfl, by go_num, by rw [E1.out, List.map_append, List.length_append]; exact hown1, hbel1⟩
      | false =>
        simp [hc] at x4
        go_wp2
        go_roundg (n - (k + 1))
        case measure => omega
        case rel => exact ⟨k + 1, by omega, rfl, by go_num, by rw [Rt.startsTo_succ, hc]; simpa using hown.alloc _, hbel.alloc hbel.size _⟩
    · have : k = n := by omega
      subst this
      clear hlt
      obtain ⟨R, hfam⟩ := hg.fam
      have hbs : base ≤ w.heap.size := Nat.le_of_lt (Nat.lt_of_le_of_lt hfam.low hfam.row.lt)
      have hlen := Rt.startsTo_length s c k
      have q1 := sort_any wr w.heap.size u5 (Rt.startsTo s c k) hown (by omega)
      have q2 : ∀ w1, w1.ownsRow w.heap.size 2 1 u5 (Rt.startsTo s c k).length ((Rt.sorted (Rt.startsTo s c k)).map I64) → Calls Try.prog 40 #[u5] w1 (CompactPost w1 u5 (Rt.sorted (Rt.startsTo s c k))) := by
        intro w1 h1
        have hl := (Rt.sorted_perm (Rt.startsTo s c k)).length_eq
        rw [← hl] at h1
        exact compact_any w1 w.heap.size u5 _ h1 (by omega)
      have hv5 : ∀ j, u5.ownBlock = some j → w.heap.size ≤ j := fun j hj => (hown.lt j hj).1
      have hv6 : ∀ j, u5.ownBlock = some j → j < wr.heap.size := fun j hj => (hown.lt j hj).2
      clear hown
      go_upto_region 10 with (first
        | (go_at_call 39; refine q1.mono ?_; rintro e w1 ⟨rfl, o1, g1⟩)
        | (go_at_call 40; refine (q2 _ o1).mono ?_; rintro e w2 ⟨⟨v2, rfl, t2, ob⟩, g2⟩))
      have t2' : TimesIs w2 v2 (Rt.times s c k) := t2
      have hb2 : Below w.heap.size w w2 := (hbel.grown g1 hbel.size hv5).grown g2 (Nat.le_trans hbel.size g1.size) hv5
      have hv7 : ∀ j, v2.ownBlock = some j → w.heap.size ≤ j ∧ j < w2.heap.size := fun j hj => by
        rw [ob] at hj
        have h1 := hv5 j hj
        have h2 := hv6 j hj
        have h3 := g1.size
        have h4 := g2.size
        exact ⟨h1, by omega⟩
      clear t2 g1 g2 o1 q1 q2 hbel hv5 hv6 ob
      obtain ⟨a2, cap2, rfl, hc2⟩ := t2'.out
      have hL := Rt.times_length s c k
      obtain ⟨L, eL⟩ : ∃ L, L = Rt.times s c k := ⟨_, rfl⟩
      rw [← eL] at t2' hc2 hL hv7 ⊢
      have EL : Hid (L = Rt.times s c k) := eL
      clear eL hc2
      go_upto_region 11 with fail
      go_cut [1] from 40 to 43 (fun s1 wx => AtG w base k L.length (Rt.rowsTo k s f c L G 0) (.slice a2 L.length cap2) L s1 wx)
      case first =>
        have hfam2 : Fam w2 base b 60 63 3 k R (fun u => (G u).length) (fun u => (G u).flatMap edgeCells) := hfam.of_blocks fun g _ hg => hb2.block g hg
        have sep : ∀ g, (Value.slice a2 L.length cap2).ownBlock = some g → g < w2.heap.size ∧ g ≠ b ∧ ∀ u, u < k → (R u).ownBlock ≠ some g := fun g hg => by
          have h1 := hv7 g hg
          have h2 := hfam.row.lt
          refine ⟨h1.2, by omega, fun u hu he => ?_⟩
          have := ((hfam.own u hu).lt g he).2
          omega
        by_cases hD : L.length = 0
        · have hnil : L = [] := List.eq_nil_of_length_eq_zero hD
          have hr := fun ty => grow_none w2 ⟨b, 0, none⟩ k ty
          have AG : AtG w base k L.length (Rt.rowsTo k s f c L G 0) (.slice a2 L.length cap2) L (.slice (some ⟨b, 0, none⟩) (k + L.length) k) w2 := by
            refine ⟨⟨b, k, k, R, rfl, by omega, ⟨hfam2.congr (fun _ _ => rfl) (fun u hu => ?_) (fun u hu => ?_), sep⟩⟩, t2', hb2, Nat.le_trans hbs hb2.size⟩
            · rw [Rt.rowsTo_zero, if_pos hu]
            · rw [Rt.rowsTo_zero, if_pos hu]
          subst hnil
          go_wp2_with (at_builtin; refine Lib.wpList_append_run _ rfl (.tmp 40) (.tmp 42) 54 3 rfl _ _ rfl rfl _ _ (hr _) ?_)
          go_meet
          exact AG
        · obtain ⟨M, hM, cs, hr, hrow⟩ := grow_rows w2 b k L.length R 54 hfam2.row (by omega) (by omega)
          have AG : AtG w base k L.length (Rt.rowsTo k s f c L G 0) (.slice a2 L.length cap2) L (.slice (some ⟨w2.heap.size, 0, none⟩) (k + L.length) M) (w2.drew.alloc (.cells cs 60)) := by
            refine ⟨⟨_, M, M, _, rfl, hM, ⟨(hfam2.moved (Nat.le_trans hbs hb2.size) cs hrow).congr (fun _ _ => rfl) (fun u hu => ?_) (fun u hu => ?_), fun g hg => ?_⟩⟩, t2'.block (fun j hj => Below.heap_alloc w2.drew _ j hj), hb2.drew.alloc hb2.size _, ?_⟩
            · rw [Rt.rowsTo_zero]; split <;> rfl
            · rw [Rt.rowsTo_zero]; split <;> rfl
            · obtain ⟨h1, h2, h3⟩ := sep g hg
              refine ⟨by simp; omega, by omega, fun u hu => ?_⟩
              by_cases e : u < k
              · simp only [e, if_true]; exact h3 u e
              · simp [e, Value.ownBlock]
            · have := hb2.size; simp; omega
          go_wp2_with (at_builtin; refine Lib.wpList_append_run _ rfl (.tmp 40) (.tmp 42) 54 3 rfl _ _ rfl rfl _ _ hr ?_)
          go_meet
          exact AG
      case rest =>
        obtain ⟨⟨b', M, cap, R', rfl, hM, hrows⟩, htimes, hbel, hbig⟩ := hcut
        clear hfam hv7 hb2 t2' hlen
        have hX' : w.cell? ⟨X, 0, none⟩ = some (.slice (some ⟨T, 0, none⟩) k k) := hX
        have hXc := cell_keep hbel (Nat.le_refl _) hX
        obtain ⟨i63, hi63, hz60, hz61, hz62⟩ := info_parts Try.info63
        go_wp2
        go_loopg [9, 10, 11, 12, 13, 14, 49] k (fun q a9 a10 a11 a12 a13 a14 i wr => ∃ m : Nat, ∃ R, m ≤ k ∧ q = k - m ∧ i = .int .i64 m ∧ RowsAt wr base b' M (Rt.rowsTo k s f c L G m) (.slice a2 L.length cap2) R ∧ TimesIs wr (.slice a2 L.length cap2) L ∧ Below base w wr ∧ base ≤ wr.heap.size)
        case atStart => exact ⟨0, R', Nat.zero_le _, rfl, rfl, hrows, htimes, hbel.mono hbs, hbig⟩
        case round =>
          clear hrows htimes hbel hbig hXc
          obtain ⟨m, R, hm, rfl, rfl, hrows, htimes, hbel, hbig⟩ := hrel
          by_cases hlt : m < k
          · have y : ∀ j, j < 6 → wr.cell? ⟨T, m * 6 + j, none⟩ = some (rtAll s f c m j) := fun j hj => by
              rw [hbel.cell (p := ⟨T, m * 6 + j, none⟩) hTb]
              exact rowIs_cellAt hT hlt hj
            have x0 := y 0 (by omega)
            rw [Nat.add_zero] at x0
            have x1 := y 1 (by omega)
            have x2 := y 2 (by omega)
            have x3 := y 3 (by omega)
            have x4 := y 4 (by omega)
            have x5 := y 5 (by omega)
            clear y
            simp only [rtAll, rtCell] at x0 x1 x2 x3 x4 x5
            simp at x0 x1 x2 x3 x4 x5
            cases hc : c m with
            | false =>
              simp [hc] at x4
              go_wp2
              go_roundg (k - (m + 1))
              case measure => omega
              case rel =>
                refine ⟨m + 1, R, by omega, rfl, by go_num, ?_, ?_, hbel.alloc hbig _, ?_⟩
                · rw [Rt.rowsTo_skip m hc]
                  exact hrows.keep (fun j hj => Below.heap_alloc wr _ j hj) (by simp)
                · exact htimes.block (fun j hj => Below.heap_alloc wr _ j hj)
                · simp; omega
            | true =>
              simp [hc] at x4
              have hpl : L.Pairwise (· < ·) := by rw [EL.out]; exact Rt.times_strict s c k
              have hin : s m ∈ L := by rw [EL.out, Rt.mem_times]; exact ⟨m, hlt, hc, rfl⟩
              obtain ⟨hidx, _⟩ := Rt.cnt_mem L hpl (s m) hin
              have hu : ∃ u, Rt.cnt L (s m) = u := ⟨_, rfl⟩
              obtain ⟨u, hu⟩ := hu
              have qS : ∀ w0 x, TimesIs w0 (.slice a2 L.length cap2) L → Calls Try.prog 41 #[.slice a2 L.length cap2, .int .i64 x] w0 fun e w' => e = .returned (.tuple #[.int .i64 (Rt.cnt L x), .bool (L.contains x)]) ∧ ∃ q, w' = w0.drewN q := fun w0 x h0 => search_any w0 _ L x h0 (by omega) (by omega) hpl
              have ta : ∀ o, TimesIs (wr.alloc o) (.slice a2 L.length cap2) L := fun o => htimes.block (fun j hj => Below.heap_alloc wr _ j hj)
              have hru : k + u < M := by omega
              go_upto_region 17 with (go_at_call 41; refine (qS _ _ (ta _)).mono ?_; rintro e w' ⟨rfl, q, rfl⟩)
              have hro := hrows.fam.own (k + u) hru
              have c5 : ∀ o, (wr.alloc o).cell? ⟨b', k + u, none⟩ = some (R (k + u)) := fun o => ((hrows.fam.row.alloc o).cell hru)
              have hlE := Rt.rowsTo_len_time (n := k) (s := s) (f := f) (c := c) (L := L) (G := G) m u
              have hW : ∀ o o' j, j < wr.heap.size → (((wr.alloc o).drewN q).alloc o').heap[j]? = wr.heap[j]? := fun o o' j hj => (Below.heap_alloc ((wr.alloc o).drewN q) o' j (by simp; omega)).trans (Below.heap_alloc wr o j hj)
              have hN : ∀ o o', (((wr.alloc o).drewN q).alloc o').heap[wr.heap.size + 1]? = some o' := fun o o' => by
                have := heap_alloc_new ((wr.alloc o).drewN q) o'
                simpa using this
              have hro' : ∀ o o', (((wr.alloc o).drewN q).alloc o').ownsRow base 63 3 (R (k + u)) (Rt.rowsTo k s f c L G m (k + u)).length ((Rt.rowsTo k s f c L G m (k + u)).flatMap edgeCells) := fun o o' => ownsRow_of_block hro (fun g hg => hW o o' g (hro.lt g hg).2)
              have j1 : (0 : Int) ≤ (k : Int) + (u : Int) := by omega
              have j2 : (k : Int) + (u : Int) < (k : Int) + (L.length : Int) := by omega
              have j3 : k + u < k + L.length := by omega
              go_upto_region 18 with (at_builtin; refine wpList_append_lies _ rfl (.tmp 73) (.tmp 76) 60 rfl base 63 i63 (.agg #[.int .i64 0, .int .i8 0, .string ⟨#[]⟩]) 3 32 Try.underlying60 hi63 hz60 hz61 hz62 rfl (by decide) (R (k + u)) (Rt.rowsTo k s f c L G m (k + u)).length ((Rt.rowsTo k s f c L G m (k + u)).flatMap edgeCells) rfl (by exact hro' _ _) ⟨wr.heap.size + 1, 0, none⟩ 1 1 [.int .i64 m, .int .i8 3, .string ⟨#[]⟩] rfl rfl (World.news_of_block (by exact hN _ _)) (by intro x hx; simp at hx; rcases hx with rfl | rfl | rfl <;> rfl) (by decide) (by unfold maxLen; omega) (by omega) (by simp; omega) (wr.heap.size + 2) (by simp) ?_; intro g1 cap1 w1 hown hgrow hat hlt1; have P := hrows.push (L := L) ((m, 3) : Nat × Int) hru (fun j hj => hW _ _ j hj) (by simp; omega) hown hgrow (by simpa using hat); obtain ⟨p1, p2, p3, p4, p5, p6, p7⟩ := P; clear hown hgrow hat)
              have hmid : Tj.upd (Rt.rowsTo k s f c L G m) (k + u) (Rt.rowsTo k s f c L G m (k + u) ++ [(m, 3)]) = Rt.rowsMid k s f c L G m := by unfold Rt.rowsMid; rw [hu]
              rw [hmid] at p3
              have r2 := p4 htimes
              have r3 := p5 base (Nat.le_refl _) w ((Rt.below_drewN (hbel.alloc hbig _) q).alloc (by simp; omega) _)
              have r4 := Nat.le_trans (show base ≤ (((wr.alloc _).drewN q).alloc _).heap.size by simp; omega) p6
              have r5 := World.cell?_of_block (a := ⟨wr.heap.size, 3, none⟩) (p7 wr.heap.size (Nat.le_refl _) (by simp; omega))
              rw [World.cell?_of_block (a := ⟨wr.heap.size, 3, none⟩) (Below.heap_alloc _ _ _ (by simp))] at r5
              rw [World.cell?_drewN, Rt.cell_new] at r5
              clear p1 p2 p4 p5 p6 p7 hlt1 hrows htimes hbel hbig x0 x1 x2 x3 x4 x5 ta hro c5 hW hN hro' hmid hlE
              generalize hW2 : w1.setCell ⟨b', k + u, none⟩ (Value.slice (some ⟨g1, 0, none⟩) ((Rt.rowsTo k s f c L G m (k + u)).length + 1) cap1) = W2 at p3 r2 r3 r4 r5 ⊢
              generalize Tj.upd R (k + u) (Value.slice (some ⟨g1, 0, none⟩) ((Rt.rowsTo k s f c L G m (k + u)).length + 1) cap1) = R2 at p3
              clear hW2
              simp only [List.getElem?_toArray, List.getElem?_cons_succ, List.getElem?_cons_zero] at r5
              have hro := p3.fam.own m (by omega)
              have c5 := p3.fam.row.cell (i := m) (by omega)
              have hlE := Rt.rowsMid_len_old (n := k) (s := s) (f := f) (c := c) (L := L) (G := G) m m hlt hc
              have hdm := hdeg m
              have hW : ∀ q2 o j, j < W2.heap.size → ((W2.drewN q2).alloc o).heap[j]? = W2.heap[j]? := fun q2 o j hj => Below.heap_alloc (W2.drewN q2) o j (by simpa using hj)
              have hN : ∀ q2 o, ((W2.drewN q2).alloc o).heap[W2.heap.size]? = some o := fun q2 o => heap_alloc_new (W2.drewN q2) o
              have hro' : ∀ q2 o, ((W2.drewN q2).alloc o).ownsRow base 63 3 (R2 m) (Rt.rowsMid k s f c L G m m).length ((Rt.rowsMid k s f c L G m m).flatMap edgeCells) := fun q2 o => ownsRow_of_block hro (fun g hg => hW q2 o g (hro.lt g hg).2)
              have d3 : (m : Int) < (k : Int) + (L.length : Int) := by omega
              have d4 : m < k + L.length := by omega
              cases hcf : L.contains (f m) with
              | true =>
                have hea : Rt.aft L (f m) = Rt.cnt L (f m) + 1 := by unfold Rt.aft; rw [hcf]; rfl
                have hle := Rt.cnt_le L (f m)
                have ef : f m ∈ L := by simpa using hcf
                have eg : decide (f m ∈ L) = true := decide_eq_true ef
                obtain ⟨v0, hv⟩ : ∃ v0, Rt.cnt L (f m) = v0 := ⟨_, rfl⟩
                rw [hv] at hea hle
                by_cases ha : (v0 + 1) < L.length
                · have HEND : Hid (Rt.rowsTo k s f c L G (m + 1) = Tj.upd (Rt.rowsMid k s f c L G m) m (Rt.rowsMid k s f c L G m m ++ [(k + (v0 + 1), 3)])) := by
                    have := Rt.rowsTo_some (s := s) (G := G) m hlt hc (show Rt.aft L (f m) < L.length by rw [hea]; exact ha)
                    rw [hea] at this
                    exact this
                  clear hea
                  have d1 : decide (((v0 + 1) : Int) < (L.length : Int)) = true := decide_eq_true (by omega)
                  have d2 : decide ((v0 + 1) < L.length) = true := decide_eq_true ha
                  go_wp2_with (first
                    | (go_at_call 41; refine (qS _ _ r2).mono ?_; rintro e w' ⟨rfl, q2, rfl⟩)
                    | (at_builtin; refine wpList_append_lies _ rfl (.tmp 98) (.tmp 103) 60 rfl base 63 i63 (.agg #[.int .i64 0, .int .i8 0, .string ⟨#[]⟩]) 3 32 Try.underlying60 hi63 hz60 hz61 hz62 rfl (by decide) (R2 m) (Rt.rowsMid k s f c L G m m).length ((Rt.rowsMid k s f c L G m m).flatMap edgeCells) rfl (by exact hro' q2 _) ⟨W2.heap.size, 0, none⟩ 1 1 [.int .i64 ((k + (v0 + 1) : Nat) : Int), .int .i8 3, .string ⟨#[]⟩] rfl rfl (World.news_of_block (by exact hN q2 _)) (by intro x hx; simp at hx; rcases hx with rfl | rfl | rfl <;> rfl) (by decide) (by unfold maxLen; omega) (by omega) (by simp; omega) (W2.heap.size + 1) (by simp) ?_; intro g1 cap1 w1 hown hgrow hat hlt1; have P := p3.push (L := L) ((k + (v0 + 1), 3) : Nat × Int) (by omega) (fun j hj => hW q2 _ j hj) (by simp) hown hgrow (by simpa using hat); obtain ⟨z1, z2, z3, z4, z5, z6, z7⟩ := P; clear hown hgrow hat))
                  go_roundg (k - (m + 1))
                  case measure => omega
                  case rel =>
                    rw [← HEND.out] at z3
                    exact ⟨m + 1, _, by omega, rfl, by go_num, z3, z4 r2, z5 base (Nat.le_refl _) w ((Rt.below_drewN r3 q2).alloc (by simpa using r4) _), Nat.le_trans (by simp; omega) z6⟩
                · have HEND : Hid (Rt.rowsTo k s f c L G (m + 1) = Rt.rowsMid k s f c L G m) := Rt.rowsTo_none (s := s) (G := G) m hlt hc (by rw [hea]; exact ha)
                  clear hea
                  have d1 : decide (((v0 + 1) : Int) < (L.length : Int)) = false := decide_eq_false (by omega)
                  have d2 : decide ((v0 + 1) < L.length) = false := decide_eq_false ha
                  go_wp2_with (go_at_call 41; refine (qS _ _ r2).mono ?_; rintro e w' ⟨rfl, q2, rfl⟩)
                  go_roundg (k - (m + 1))
                  case measure => omega
                  case rel =>
                    refine ⟨m + 1, R2, by omega, rfl, by go_num, ?_, r2.block (fun _ _ => rfl), Rt.below_drewN r3 q2, by simpa using r4⟩
                    rw [HEND.out]
                    exact p3.keep (fun _ _ => rfl) (by simp)
              | false =>
                have hea : Rt.aft L (f m) = Rt.cnt L (f m) := by unfold Rt.aft; rw [hcf]; rfl
                have hle := Rt.cnt_le L (f m)
                have ef : ¬ f m ∈ L := by simpa using hcf
                have eg : decide (f m ∈ L) = false := decide_eq_false ef
                obtain ⟨v0, hv⟩ : ∃ v0, Rt.cnt L (f m) = v0 := ⟨_, rfl⟩
                rw [hv] at hea hle
                by_cases ha : v0 < L.length
                · have HEND : Hid (Rt.rowsTo k s f c L G (m + 1) = Tj.upd (Rt.rowsMid k s f c L G m) m (Rt.rowsMid k s f c L G m m ++ [(k + v0, 3)])) := by
                    have := Rt.rowsTo_some (s := s) (G := G) m hlt hc (show Rt.aft L (f m) < L.length by rw [hea]; exact ha)
                    rw [hea] at this
                    exact this
                  clear hea
                  have d1 : decide ((v0 : Int) < (L.length : Int)) = true := decide_eq_true (by omega)
                  have d2 : decide (v0 < L.length) = true := decide_eq_true ha
                  go_wp2_with (first
                    | (go_at_call 41; refine (qS _ _ r2).mono ?_; rintro e w' ⟨rfl, q2, rfl⟩)
                    | (at_builtin; refine wpList_append_lies _ rfl (.tmp 98) (.tmp 103) 60 rfl base 63 i63 (.agg #[.int .i64 0, .int .i8 0, .string ⟨#[]⟩]) 3 32 Try.underlying60 hi63 hz60 hz61 hz62 rfl (by decide) (R2 m) (Rt.rowsMid k s f c L G m m).length ((Rt.rowsMid k s f c L G m m).flatMap edgeCells) rfl (by exact hro' q2 _) ⟨W2.heap.size, 0, none⟩ 1 1 [.int .i64 ((k + v0 : Nat) : Int), .int .i8 3, .string ⟨#[]⟩] rfl rfl (World.news_of_block (by exact hN q2 _)) (by intro x hx; simp at hx; rcases hx with rfl | rfl | rfl <;> rfl) (by decide) (by unfold maxLen; omega) (by omega) (by simp; omega) (W2.heap.size + 1) (by simp) ?_; intro g1 cap1 w1 hown hgrow hat hlt1; have P := p3.push (L := L) ((k + v0, 3) : Nat × Int) (by omega) (fun j hj => hW q2 _ j hj) (by simp) hown hgrow (by simpa using hat); obtain ⟨z1, z2, z3, z4, z5, z6, z7⟩ := P; clear hown hgrow hat))
                  go_roundg (k - (m + 1))
                  case measure => omega
                  case rel =>
                    rw [← HEND.out] at z3
                    exact ⟨m + 1, _, by omega, rfl, by go_num, z3, z4 r2, z5 base (Nat.le_refl _) w ((Rt.below_drewN r3 q2).alloc (by simpa using r4) _), Nat.le_trans (by simp; omega) z6⟩
                · have HEND : Hid (Rt.rowsTo k s f c L G (m + 1) = Rt.rowsMid k s f c L G m) := Rt.rowsTo_none (s := s) (G := G) m hlt hc (by rw [hea]; exact ha)
                  clear hea
                  have d1 : decide ((v0 : Int) < (L.length : Int)) = false := decide_eq_false (by omega)
                  have d2 : decide (v0 < L.length) = false := decide_eq_false ha
                  go_wp2_with (go_at_call 41; refine (qS _ _ r2).mono ?_; rintro e w' ⟨rfl, q2, rfl⟩)
                  go_roundg (k - (m + 1))
                  case measure => omega
                  case rel =>
                    refine ⟨m + 1, R2, by omega, rfl, by go_num, ?_, r2.block (fun _ _ => rfl), Rt.below_drewN r3 q2, by simpa using r4⟩
                    rw [HEND.out]
                    exact p3.keep (fun _ _ => rfl) (by simp)
          · have : m = k := by omega
            subst this
            clear hlt
            rw [← Rt.rowsEnd_zero] at hrows
            go_wp2
            go_loopg [15, 110] (L.length - 1) (fun q a15 i wr => ∃ j : Nat, ∃ R, j ≤ L.length - 1 ∧ q = L.length - 1 - j ∧ i = .int .i64 j ∧ RowsAt wr base b' M (Rt.rowsEnd m s f c L G j) (.slice a2 L.length cap2) R ∧ Below base w wr ∧ base ≤ wr.heap.size)
            case atStart => exact ⟨0, R, Nat.zero_le _, rfl, rfl, hrows, hbel, hbig⟩
            case round =>
              clear hrows htimes hbel hbig
              obtain ⟨j, R, hj, rfl, rfl, hrows, hbel, hbig⟩ := hrel
              by_cases hlt : j < L.length - 1
              · have hru : m + j < M := by omega
                have hro := hrows.fam.own (m + j) hru
                have c5 := hrows.fam.row.cell hru
                have hlE := Rt.rowsEnd_len_time (n := m) (s := s) (f := f) (c := c) (L := L) (G := G) j j
                have hro' : ∀ o, (wr.alloc o).ownsRow base 63 3 (R (m + j)) (Rt.rowsEnd m s f c L G j (m + j)).length ((Rt.rowsEnd m s f c L G j (m + j)).flatMap edgeCells) := fun o => hro.alloc o
                have d1 : decide ((j : Int) < (L.length : Int) - 1) = true := decide_eq_true (by omega)
                have d2 : (m : Int) + (j : Int) < (m : Int) + (L.length : Int) := by omega
                have d3 : m + j < m + L.length := by omega
                have d4 : (0 : Int) ≤ (m : Int) + (j : Int) := by omega
                go_wp2_with (at_builtin; refine wpList_append_lies _ rfl (.tmp 122) (.tmp 128) 60 rfl base 63 i63 (.agg #[.int .i64 0, .int .i8 0, .string ⟨#[]⟩]) 3 32 Try.underlying60 hi63 hz60 hz61 hz62 rfl (by decide) (R (m + j)) (Rt.rowsEnd m s f c L G j (m + j)).length ((Rt.rowsEnd m s f c L G j (m + j)).flatMap edgeCells) rfl (by exact hro' _) ⟨wr.heap.size, 0, none⟩ 1 1 [.int .i64 ((m + j + 1 : Nat) : Int), .int .i8 3, .string ⟨#[]⟩] rfl rfl (World.news_of_block (by exact heap_alloc_new wr _)) (by intro x hx; simp at hx; rcases hx with rfl | rfl | rfl <;> rfl) (by decide) (by unfold maxLen; omega) (by omega) (by simp; omega) (wr.heap.size + 1) (by simp) ?_; intro g1 cap1 w1 hown hgrow hat hlt1; have P := hrows.push (L := L) ((m + j + 1, 3) : Nat × Int) hru (fun k hk => Below.heap_alloc wr _ k hk) (by simp) hown hgrow (by simpa using hat); obtain ⟨z1, z2, z3, z4, z5, z6, z7⟩ := P; clear hown hgrow hat)
                go_roundg (L.length - 1 - (j + 1))
                case measure => omega
                case rel =>
                  rw [← Rt.rowsEnd_succ] at z3
                  exact ⟨j + 1, _, by omega, rfl, by go_num, z3, z5 base (Nat.le_refl _) w (hbel.alloc hbig _), Nat.le_trans (by simp; omega) z6⟩
              · have : j = L.length - 1 := by omega
                subst this
                have d1 : decide (((L.length - 1 : Nat) : Int) < (L.length : Int) - 1) = false := decide_eq_false (by omega)
                go_wp2
                go_ret
                refine ⟨⟨b', cap, M, ?_, ?_, ?_⟩, hbel⟩
                · rw [← EL.out]; rfl
                · rw [← EL.out]; exact hM
                · rw [← EL.out]; exact ⟨_, hrows.fam⟩

theorem realZ (base X T b n : Nat) (s f : Nat → Int) (c : Nat → Bool) (G : Nat → List (Nat × Int)) (w : World) (hn : n ≤ 65536) (hX : w.cell? ⟨X, 0, none⟩ = some (.slice (some ⟨T, 0, none⟩) n n)) (hT : w.rowIs T 40 (n * 6) (wide 6 (rtAll s f c))) (hTb : T < base)
    (hg : GraphIs w base b n G) (hdeg : ∀ v, (G v).length ≤ 4294967296) :
    Calls Try.prog 24 #[.pointer (some ⟨X, 0, none⟩), .slice (some ⟨b, 0, none⟩) n n] w (RealPost w base n s f c G) := by
  have q := realTime base X T b n s f c G w hn hX hT hTb hg hdeg
  go_enter Try.func24, Try.ntmps24
  go_wp2_with (go_at_call 36; refine q.mono ?_; rintro e w' ⟨⟨b', cap, M, rfl, h1, h2⟩, h3⟩)
  go_ret
  exact ⟨⟨b', cap, M, rfl, h1, h2⟩, h3⟩

end Go.Proofs.Qxb6600569a
