/-
  'zzClassesReached' walked.
-/
import Derived.Test.Qxb6600569aRevWalk
import Derived.Test.Qxb6600569aCls
namespace Go.Proofs.Qxb6600569a
open Go.RowKit
open Tj (upd upd_same upd_other)
set_option linter.unusedVariables false

/-- The memory of the search. -/
structure AtQ (w : World) (H n k : Nat) (has rea : Nat → Bool) (qv : Value) (q : List Nat) (wr : World) : Prop where
  hasr : wr.rowIs H 4 k (fun j => .bool (has j))
  rear : wr.rowIs (H + 1) 4 n (fun x => .bool (rea x))
  own : wr.ownsRow (H + 2) 3 1 qv q.length (q.map N64)
  below : Below H w wr

section
variable {w wr : World} {H n k : Nat} {has rea : Nat → Bool} {qv : Value} {q : List Nat}

theorem AtQ.low (h : AtQ w H n k has rea qv q wr) {b : Nat} (hb : b < H + 2) : qv.ownBlock ≠ some b := fun e => by have := (h.own.lt b e).1; omega

theorem AtQ.setHas (h : AtQ w H n k has rea qv q wr) (j : Nat) : AtQ w H n k (upd has j true) rea qv q (wr.setCell ⟨H, j, none⟩ (.bool true)) :=
  ⟨(h.hasr.set j _).congr fun i _ => by simp only [upd]; split <;> rfl, h.rear.setOther (by simp) _, ownsRow_setCell h.own _ (h.low (by simp)), h.below.setCell (Nat.le_refl _) _⟩

theorem AtQ.setRea (h : AtQ w H n k has rea qv q wr) (x : Nat) : AtQ w H n k has (upd rea x true) qv q (wr.setCell ⟨H + 1, x, none⟩ (.bool true)) :=
  ⟨h.hasr.setOther (by simp) _, (h.rear.set x _).congr fun i _ => by simp only [upd]; split <;> rfl, ownsRow_setCell h.own _ (h.low (by simp)), h.below.setCell (by simp) _⟩

theorem AtQ.big (h : AtQ w H n k has rea qv q wr) : H + 2 ≤ wr.heap.size := h.rear.lt

theorem AtQ.push (h : AtQ w H n k has rea qv q wr) {w1 : World} {x g cap : Nat} {o : Obj} (hown : w1.ownsRow (H + 2) 3 1 (.slice (some ⟨g, 0, none⟩) (q.length + 1) cap) (q.length + 1) (q.map N64 ++ [.int .i64 x])) (hgrow : (wr.alloc o).grownBy w1 qv.ownBlock) :
    AtQ w H n k has rea (.slice (some ⟨g, 0, none⟩) (q.length + 1) cap) (q ++ [x]) w1 := by
  have hb := h.big
  have kb : ∀ b, b < H + 2 → w1.heap[b]? = wr.heap[b]? := fun b hlt => (hgrow.block b (by simp; omega) (fun e => h.low hlt e.symm)).trans (Below.heap_alloc wr o b (by omega))
  refine ⟨h.hasr.of_block (kb _ (by omega)), h.rear.of_block (kb _ (by omega)), ?_, (h.below.alloc (by omega) o).grown hgrow (by simp; omega) (fun j hj => by have := (h.own.lt j hj).1; omega)⟩
  have e1 : (q ++ [x]).length = q.length + 1 := by simp
  have e2 : (q ++ [x]).map N64 = q.map N64 ++ [.int .i64 x] := by simp [N64]
  rw [e1, e2]
  exact hown

theorem AtQ.drewN' (h : AtQ w H n k has rea qv q wr) (m : Nat) : AtQ w H n k has rea qv q (wr.drewN m) := ⟨h.hasr, h.rear, h.own, Below.drewN' h.below m⟩

theorem AtQ.shape (h : AtQ w H n k has rea qv q wr) : ∃ a cap, qv = .slice a q.length cap := by
  rcases h.own.2 with ⟨e, e'⟩ | ⟨g, cap, cur, e, _⟩
  · exact ⟨none, 0, by rw [e, e']⟩
  · exact ⟨_, cap, e⟩

theorem AtQ.at (h : AtQ w H n k has rea qv q wr) {i : Nat} (hi : i < q.length) : ∃ g cap, qv = .slice (some ⟨g, 0, none⟩) q.length cap ∧ wr.cell? ⟨g, i, none⟩ = some (N64 q[i]) := by
  have ho := h.own
  rcases ho.2 with ⟨_, e'⟩ | ⟨g, cap, cur, e, _⟩
  · omega
  · refine ⟨g, cap, e, ?_⟩
    rw [e] at ho
    rw [ho.cellAt i (by omega)]
    simp [hi]
end

theorem World.size_setCell' (w : World) (a : Addr) (v : Value) : (w.setCell a v).heap.size = w.heap.size := by simp

theorem Try.info4' : (Try.prog.info? 4).map (fun i => (i.zero, i.size, i.bytes)) = some (some (.bool false), 1, 1) := by kernel_rfl

theorem run_make_queue (n : Nat) (hn : n ≤ 65536) (w : World) : (Instr.makeSlice 59 (.int .i64 0) (.int .i64 (n : Int))).run Try.prog w = .ok (.slice (some ⟨w.heap.size, 0, none⟩) 0 n) (w.alloc (.cells (madeCells #[.int .i64 0] n) 3)) := by
  obtain ⟨i, hi, hz, hs, hb⟩ := info_parts Try.info3
  have hr := run_make (P := Try.prog) w 59 3 i _ Try.underlying59 hi hz .i64 .i64 0 n (by omega) (by omega) (by rw [hb]; omega) (by omega)
  simp only [Int.toNat_natCast, Int.toNat_zero, hs, Nat.mul_one] at hr
  exact hr

set_option maxHeartbeats 2000000 in
set_option maxRecDepth 100000 in
theorem reached_any (base b n cap bc ccap k H : Nat) (g : Nat → List Nat) (c : Nat → Nat) (w : World) (hH : w.heap.size = H) (hn : n ≤ 65536) (hk : k ≤ 65536) (hA : AdjIs w base b n g) (hC : w.rowIs bc 3 n (fun i => N64 (c i)))
    (hck : ∀ x, x < n → c x < k) (hin : ∀ u, u < n → ∀ v ∈ g u, v < n) (hdeg : ∀ u, (g u).length ≤ 4294967296) (hl : Linked n g c) :
    Calls Try.prog 32 #[.slice (some ⟨b, 0, none⟩) n cap, .slice (some ⟨bc, 0, none⟩) n ccap, .int .i64 k] w (TruePost w) := by
  have hmk1 := run_make_row' (P := Try.prog) 23 4 (.bool false) 1 Try.underlying23 Try.info4' rfl .i64 .i64 k (by omega) (by omega)
  have hmk2 := run_make_row' (P := Try.prog) 23 4 (.bool false) 1 Try.underlying23 Try.info4' rfl .i64 .i64 n (by omega) (by omega)
  have hmk3 := run_make_queue n hn
  obtain ⟨i0, hi, hz0, hz1, hz2⟩ := info_parts Try.info3
  obtain ⟨R, hfam⟩ := hA
  have HCK : Hid (∀ x, x < n → c x < k) := hck
  have HIN : Hid (∀ u, u < n → ∀ v ∈ g u, v < n) := hin
  have HL : Hid (Linked n g c) := hl
  clear hck hin hl
  have e2 : H + 1 + 1 = H + 2 := rfl
  have hbcH : bc < H := by rw [← hH]; exact hC.lt
  have S0 : AtQ w H n k (fun _ => false) (fun _ => false) (.slice (some ⟨H + 2, 0, none⟩) 0 n) [] (((w.alloc (.cells (madeCells #[.bool false] k) 4)).alloc (.cells (madeCells #[.bool false] n) 4)).alloc (.cells (madeCells #[.int .i64 0] n) 3)) := by
    refine ⟨((rowIs_zeros w _ 4 H k hH).alloc _).alloc _, (rowIs_zeros _ _ 4 (H + 1) n (by simp [hH])).alloc _, ?_, (((Below.refl H w).alloc (by omega) _).alloc (by simp; omega) _).alloc (by simp; omega) _⟩
    have := World.ownsRow_made (base := H + 2) (e := 3) (size := 1) ((w.alloc (.cells (madeCells #[.bool false] k) 4)).alloc (.cells (madeCells #[.bool false] n) 4)) (madeCells #[.int .i64 0] n) n (by simp [hH]) (by unfold maxLen; omega) (by rw [size_madeCells]; omega)
    simpa [hH] using this
  go_enter Try.func32, Try.ntmps32
  go_wp2
  generalize (((w.alloc (.cells (madeCells #[.bool false] k) 4)).alloc (.cells (madeCells #[.bool false] n) 4)).alloc (.cells (madeCells #[.int .i64 0] n) 3)) = W0 at S0 ⊢
  have HH : Hid (w.heap.size = H) := hH
  clear hH
  go_loopg [11, 10] n (fun q i qv wr => ∃ v : Nat, v ≤ n ∧ q = n - v ∧ i = .int .i64 v ∧ ∃ has rea qq, AtQ w H n k has rea qv qq wr ∧ Bfs1 c v has rea qq)
  case atStart => exact ⟨0, Nat.zero_le _, rfl, rfl, _, _, [], S0, Bfs1.start c⟩
  case round =>
    clear S0
    obtain ⟨v, hv, rfl, rfl, has, rea, q, hat, hbf⟩ := hrel
    rename_i qv
    have hHs := HH.out
    have hbig := hat.big
    obtain ⟨aq, cq, hqv⟩ := hat.shape
    subst hqv
    by_cases hlt : v < n
    · have hcv := HCK.out v hlt
      have x1 := (hC.of_block (hat.below.block bc hbcH)).cell hlt
      simp only [N64] at x1
      have x2 := hat.hasr.cell hcv
      have f2 := hat.hasr.frozen (c v)
      have x3 := hat.rear.cell hlt
      have f3 := hat.rear.frozen v
      have hql : q.length ≤ n := by
        have := List.Nodup.length_le_of_subset (l₂ := List.range n) hbf.nodup (fun x hx => by have := hbf.lt x hx; simp; omega)
        simpa using this
      obtain ⟨cv, hcve⟩ : ∃ cv, c v = cv := ⟨_, rfl⟩
      rw [hcve] at x1 x2 f2 hcv
      have HCV : Hid (c v = cv) := hcve
      clear hcve
      cases hh : has cv
      · have S1 := (hat.setHas cv).setRea v
        have B1 := hbf.new
        rw [HCV.out] at B1
        rw [hh] at x2
        clear hh
        have hro := S1.own
        go_wp2_with (at_builtin; refine wpList_append_lies _ rfl (.tmp 47) (.tmp 49) 59 rfl (H + 2) 3 i0 (.int .i64 0) 1 8 Try.underlying59 hi hz0 hz1 hz2 rfl (by decide) (.slice aq q.length cq) q.length (q.map N64) rfl (by exact hro.alloc _) ⟨wr.heap.size, 0, none⟩ 1 1 [.int .i64 v] rfl rfl ?h0 ?h1 (by decide) ?h2 ?h3 ?h4 (wr.heap.size + 1) (by simp) ?_)
        case h0 =>
          refine World.news_of_block (cs := #[.int .i64 v]) (t := 3) (fr := (0, 0)) ?_
          have h9 := heap_alloc_new ((wr.setCell ⟨H, cv, none⟩ (.bool true)).setCell ⟨H + 1, v, none⟩ (.bool true)) (.cells #[.int .i64 v] 3)
          simp only [World.size_setCell'] at h9
          exact h9
        case h1 => intro x hx; simp at hx; subst hx; rfl
        case h2 => unfold maxLen; omega
        case h3 => omega
        case h4 => simp; omega
        intro g1 cap1 w1 hown hgrow hat1 hlt1
        have S2 := S1.push hown hgrow
        clear hown hgrow hat1 hlt1 hro x1 x2 x3 f2 f3 hat S1
        go_wp2
        go_roundg (n - (v + 1))
        case measure => omega
        case rel => exact ⟨v + 1, by omega, rfl, by go_num, _, _, q ++ [v], S2, B1⟩
      · rw [hh] at x2
        have B1 := hbf.old (by rw [HCV.out]; exact hh)
        clear hh
        go_wp2
        go_roundg (n - (v + 1))
        case measure => omega
        case rel => exact ⟨v + 1, by omega, rfl, by go_num, has, rea, q, hat, B1⟩
    · have : n = v := by omega
      subst this
      have S0 : Bfs2 n g c 0 0 rea q := Bfs2.start hbf
      go_wp2
      go_loopg [12, 10] n (fun m i qv wr => ∃ hd : Nat, m = n - hd ∧ i = .int .i64 hd ∧ ∃ has rea qq, AtQ w H n k has rea qv qq wr ∧ Bfs2 n g c hd 0 rea qq)
      case atStart => exact ⟨0, rfl, rfl, has, rea, q, hat, S0⟩
      case round =>
        clear S0 hat hbf hbig
        obtain ⟨hd, rfl, rfl, has, rea, q, hat, hbf⟩ := hrel
        have hbig := hat.big
        have hql := hbf.len
        have hhq := hbf.hd
        by_cases hlt : hd < q.length
        · obtain ⟨gq, cq', hqv, hcq⟩ := hat.at hlt
          subst hqv
          obtain ⟨x, hx⟩ : ∃ x, x = q[hd] := ⟨_, rfl⟩
          have hxn : x < n := by rw [hx]; exact hbf.lt _ (List.getElem_mem hlt)
          rw [← hx] at hcq
          simp only [N64] at hcq
          have HX : Hid (x = q[hd]) := hx
          clear hx
          have hltz : (hd : Int) < (q.length : Int) := by omega
          have S1 : AtQ w H n k has rea (.slice (some ⟨gq, 0, none⟩) q.length cq') q wr := hat
          go_wp2
          go_loopg [14, 10] (g x).length (fun m i qv wr => ∃ e : Nat, e ≤ (g x).length ∧ m = (g x).length - e ∧ i = .int .i64 e ∧ ∃ has rea qq, ∃ hl : hd < qq.length, x = qq[hd] ∧ AtQ w H n k has rea qv qq wr ∧ Bfs2 n g c hd e rea qq)
          case atStart => exact ⟨0, Nat.zero_le _, rfl, rfl, has, rea, q, hlt, HX.out, S1, hbf⟩
          case round =>
            clear S1 hat hbf hbig hcq hql hhq HX hltz
            obtain ⟨e, he, rfl, rfl, has, rea, q, hlt, hx, hat, hbf⟩ := hrel
            have HX : Hid (x = q[hd]) := hx
            clear hx
            have hbig := hat.big
            have hql := hbf.len
            have cg := cell_keep (a := ⟨b, x, none⟩) hat.below (by omega) (hfam.row.cell hxn)
            have hdx := hdeg x
            by_cases hle : e < (g x).length
            · obtain ⟨gv, cpv, hR, _, hcells⟩ := hfam.cells hxn (by omega)
              have ct := hcells e (by omega)
              rw [List.getElem?_map, List.getElem?_eq_getElem hle] at ct
              have ct' := cell_keep hat.below (by omega) ct
              simp only [I] at ct'
              rw [hR] at cg
              obtain ⟨y, hy⟩ : ∃ y, y = (g x)[e] := ⟨_, rfl⟩
              rw [← hy] at ct'
              have hyn : y < n := by rw [hy]; exact HIN.out x hxn _ (List.getElem_mem hle)
              have HY : Hid (y = (g x)[e]) := hy
              clear hy ct hcells hR
              have x1 := (hC.of_block (hat.below.block bc hbcH)).cell hxn
              have x2 := (hC.of_block (hat.below.block bc hbcH)).cell hyn
              simp only [N64] at x1 x2
              have x3 := hat.rear.cell hyn
              have f3 := hat.rear.frozen y
              obtain ⟨aq, cq, hqv⟩ := hat.shape
              subst hqv
              have i1 : (0 : Int) ≤ (x : Int) := by omega
              have i2 : (x : Int) < (n : Int) := by omega
              have i3 : (0 : Int) ≤ (y : Int) := by omega
              have i4 : (y : Int) < (n : Int) := by omega
              have hkq : e < (g q[hd]).length := by rw [← HX.out]; exact hle
              have hyq : (g q[hd])[e] = y := by rw [HY.out]; simp [← HX.out]
              by_cases hcc : c y = c x
              · have j1 : ((c y : Int) == (c x : Int)) = true := by rw [hcc]; simp
                cases hr : rea y
                · rw [hr] at x3
                  have B1 := hbf.push hlt hkq (by rw [hyq]; exact hyn) (by rw [hyq]; exact hr)
                  rw [hyq] at B1
                  have S1 := hat.setRea y
                  have hro := S1.own
                  clear hr hcc hyq
                  go_wp2
                  go_quiet (fail)
                  go_wp2_with (at_builtin; refine wpList_append_lies _ rfl (.tmp 96) (.tmp 98) 59 rfl (H + 2) 3 i0 (.int .i64 0) 1 8 Try.underlying59 hi hz0 hz1 hz2 rfl (by decide) (.slice aq q.length cq) q.length (q.map N64) rfl (by exact hro.alloc _) ⟨wr.heap.size, 0, none⟩ 1 1 [.int .i64 y] rfl rfl ?h0 ?h1 (by decide) ?h2 ?h3 ?h4 (wr.heap.size + 1) (by simp) ?_)
                  case h0 =>
                    refine World.news_of_block (cs := #[.int .i64 y]) (t := 3) (fr := (0, 0)) ?_
                    have h9 := heap_alloc_new ((wr.drewN nq).setCell ⟨H + 1, y, none⟩ (.bool true)) (.cells #[.int .i64 y] 3)
                    simp only [World.size_setCell'] at h9
                    exact h9
                  case h1 => first | rfl | (intro x hx; simp at hx; subst hx; rfl)
                  case h2 => unfold maxLen; omega
                  case h3 => omega
                  case h4 => first | omega | (simp; omega)
                  intro g1 cap1 w1 hown hgrow hat1 hlt1
                  have S2 := (AtQ.drewN' S1 nq).push hown hgrow
                  clear hown hgrow hat1 hlt1 hro x1 x2 x3 f3 hat S1
                  go_wp2
                  go_roundg ((g x).length - (e + 1))
                  case measure => omega
                  case rel => exact ⟨e + 1, by omega, rfl, by go_num, _, _, q ++ [y], by simp; omega, by rw [List.getElem_append_left hlt]; exact HX.out, S2, B1⟩
                · rw [hr] at x3
                  have B1 := hbf.skip hlt hkq (fun _ => by rw [hyq]; exact hr)
                  clear hr hcc hyq
                  go_wp2
                  go_quiet (fail)
                  go_wp2
                  go_roundg ((g x).length - (e + 1))
                  case measure => omega
                  case rel => exact ⟨e + 1, by omega, rfl, by go_num, has, rea, q, hlt, HX.out, hat.drewN' _, B1⟩
              · have j1 : ((c y : Int) == (c x : Int)) = false := by simp; omega
                have B1 := hbf.skip hlt hkq (fun h => absurd (show c y = c x by rw [← hyq, h, ← HX.out]) hcc)
                clear hcc hyq
                go_wp2
                go_quiet (fail)
                go_wp2
                go_roundg ((g x).length - (e + 1))
                case measure => omega
                case rel => exact ⟨e + 1, by omega, rfl, by go_num, has, rea, q, hlt, HX.out, hat.drewN' _, B1⟩
            · obtain ⟨ah, ch, hR⟩ := hfam.header hxn
              rw [hR] at cg
              clear hR
              have hek : e = (g q[hd]).length := by rw [← HX.out]; omega
              have B1 := hbf.next hlt hek
              obtain ⟨aq, cq, hqv⟩ := hat.shape
              subst hqv
              clear hek
              go_wp2
              go_roundg (n - (hd + 1))
              case measure => omega
              case rel => exact ⟨hd + 1, rfl, by go_num, has, rea, q, hat, B1⟩
        · have hdl : hd = q.length := by omega
          obtain ⟨aq, cq, hqv⟩ := hat.shape
          subst hqv
          have hall := hbf.done hdl HL.out
          have HAL : Hid (∀ v, v < n → rea v = true) := hall
          clear hall hbf
          go_wp2
          go_loopg [16] n (fun m i wr => ∃ v : Nat, v ≤ n ∧ m = n - v ∧ i = .int .i64 v ∧ wr.rowIs (H + 1) 4 n (fun x => .bool (rea x)) ∧ Below H w wr)
          case atStart => exact ⟨0, Nat.zero_le _, rfl, rfl, hat.rear, hat.below⟩
          case round =>
            clear hat
            obtain ⟨v, hv, rfl, rfl, hrow, hbel⟩ := hrel
            by_cases hlt : v < n
            · have x1 := hrow.cell hlt
              rw [HAL.out v hlt] at x1
              go_wp2
              go_roundg (n - (v + 1))
              case measure => omega
              case rel => exact ⟨v + 1, by omega, rfl, by go_num, hrow, hbel⟩
            · go_wp2
              go_ret
              exact ⟨rfl, by rw [HH.out]; exact hbel⟩

end Go.Proofs.Qxb6600569a
