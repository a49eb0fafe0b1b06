/-
  THE WALK OF 'FnParseThenPutGivesBackTheSameBytes'.
-/
import Derived.Test.Qxb6602671aPutWalk
import Derived.Deep.QuietTactic
import Derived.BigQuiet
import Derived.Deep.RegionHeldLaw
import Derived.Deep.RegionLaw
import Derived.Deep.CutRange
namespace Go.Proofs.Qxb6602671a
open Go.RowKit
set_option linter.unusedVariables false

theorem wl_cases (b : Nat) : (b % 64 = 0 ∧ wl b = 2) ∨ (b % 64 = 1 ∧ wl b = 3) ∨ (2 ≤ b % 64 ∧ wl b = 1) := by
  unfold wl
  by_cases h : b % 64 = 0
  · exact .inl ⟨h, if_pos h⟩
  · by_cases h' : b % 64 = 1
    · exact .inr (.inl ⟨h', by rw [if_neg h, if_pos h']⟩)
    · exact .inr (.inr ⟨by omega, by rw [if_neg h, if_neg h']⟩)

/-- THE PLAIN LAW: what was read is written back, but for the three-byte form of an id under 320. -/
theorem put_back (x : Nat → Nat) (hx : ∀ j, x j < 256) :
    x 0 / 64 ≤ 3 ∧ 2 ≤ idOf x ∧ idOf x ≤ 65599 ∧
    ((wl (x 0) = 3 ∧ x 2 = 0) → room (idOf x) = 2 ∧ 1 ≤ x 0 ∧ enc (x 0 / 64) (idOf x) 0 = x 0 - 1 ∧ enc (x 0 / 64) (idOf x) 1 = x 1) ∧
    (¬ (wl (x 0) = 3 ∧ x 2 = 0) → room (idOf x) = wl (x 0) ∧ ∀ j, j < wl (x 0) → enc (x 0 / 64) (idOf x) j = x j) := by
  have h0 := hx 0
  have h1 := hx 1
  have h2 := hx 2
  rcases wl_cases (x 0) with ⟨m, e⟩ | ⟨m, e⟩ | ⟨m, e⟩
  · have ei : idOf x = x 1 + 64 := by unfold idOf; rw [if_pos m]
    have er : room (idOf x) = 2 := by have := room_cases (idOf x); omega
    rw [e, ei] at *
    refine ⟨by omega, by omega, by omega, fun h => by omega, fun _ => ⟨er, fun j hj => ?_⟩⟩
    unfold enc
    rw [if_neg (by omega), if_pos (by omega)]
    match j, hj with
    | 0, _ => simp; omega
    | 1, _ => simp
  · have ei : idOf x = 256 * x 2 + x 1 + 64 := by unfold idOf; rw [if_neg (by omega), if_pos m]
    have hr := room_cases (idOf x)
    rw [e, ei] at *
    refine ⟨by omega, by omega, by omega, fun h => ⟨by omega, by omega, ?_, ?_⟩, fun h => ⟨by omega, fun j hj => ?_⟩⟩
    · unfold enc; rw [if_neg (by omega), if_pos (by omega), if_pos rfl]; omega
    · unfold enc; rw [if_neg (by omega), if_pos (by omega), if_neg (by omega)]; omega
    · unfold enc
      rw [if_neg (by omega), if_neg (by omega)]
      match j, hj with
      | 0, _ => simp; omega
      | 1, _ => simp; omega
      | 2, _ => simp; omega
  · have ei : idOf x = x 0 % 64 := by unfold idOf; rw [if_neg (by omega), if_neg (by omega)]
    have er : room (idOf x) = 1 := by have := room_cases (idOf x); omega
    rw [e, ei] at *
    refine ⟨by omega, by omega, by omega, fun h => by omega, fun _ => ⟨er, fun j hj => ?_⟩⟩
    unfold enc
    rw [if_pos (by omega)]
    match j, hj with
    | 0, _ => omega

/-- What stands behind the writer. -/
structure Wrote (H P n M t i : Nat) (x : Nat → Nat) (w wx : World) : Prop where
  row : wx.rowIs P 32 4 (fun j => if j < M then .int .u8 (enc t i j) else .int .u8 165)
  src : wx.rowIs H 5 n (rowOf x)
  below : Below H w wx

theorem Wrote.drewN {H P n M t i : Nat} {x : Nat → Nat} {w wx : World} (h : Wrote H P n M t i x w wx) (q : Nat) : Wrote H P n M t i x w (wx.drewN q) := ⟨h.row, h.src, ⟨h.below.os, h.below.tape, h.below.output, h.below.size, h.below.block⟩⟩

structure WroteRet (H P n M t i : Nat) (x : Nat → Nat) (w : World) (e : Ending) (wx : World) : Prop where
  ret : e = .returned (.int .i64 M)
  wrote : Wrote H P n M t i x w wx

set_option maxRecDepth 100000 in
set_option maxHeartbeats 2000000 in
theorem back_main (b o n cap : Nat) (x : Nat → Nat) (w : World) (hn : n ≤ 1048576) (hx : ∀ j, x j < 256) (hw : wl (x 0) ≤ n) (hc : ∀ j, j < n → w.cell? ⟨b, o + j, none⟩ = some (.int .u8 (x j))) :
    Calls Try.prog 3 #[.slice (some ⟨b, o, none⟩) n cap] w (Done w) := by
  obtain ⟨ht, hi2, hi, LA, LB⟩ := put_back x hx
  have hwb := wl_bounds (x 0)
  have hrc := room_cases (idOf x)
  have q1 := bytes_parse (some ⟨b, o, none⟩) n cap w (by unfold maxLen; omega)
  have q2 := wireLen (x 0) (hx 0) w
  have q3 := clone b o n cap x w hn hc
  have c0 : w.cell? ⟨b, o, none⟩ = some (.int .u8 (x 0)) := hc 0 (by omega)
  have q4 : ∀ w1, w1.rowIs w.heap.size 5 n (rowOf x) → Calls Try.prog 9 #[.slice (some ⟨w.heap.size, 0, none⟩) n n] w1 (ParsePost w1 x) := by
    intro w1 h1
    exact zzParse w.heap.size 0 n n x w1 hx hw (fun j hj => by rw [Nat.zero_add]; exact h1.cell hj)
  have d1 : decide (n ≤ 1048576) = true := by simpa using hn
  have i1 : ¬ (1048576 : Int) < (n : Int) := by omega
  have i2 : ¬ ((n : Int) = 0) := by omega
  have i3 : ¬ (n : Int) < (wl (x 0) : Int) := by omega
  have i3' : ¬ n < wl (x 0) := by omega
  have i7 : (0 : Int) < (n : Int) := by omega
  clear hc hrc
  obtain ⟨t, et⟩ : ∃ t, t = x 0 / 64 := ⟨_, rfl⟩
  obtain ⟨id, ei⟩ : ∃ i, i = idOf x := ⟨_, rfl⟩
  obtain ⟨N, eN⟩ : ∃ i, i = wl (x 0) := ⟨_, rfl⟩
  obtain ⟨M, eM⟩ : ∃ i, i = room id := ⟨_, rfl⟩
  have q4' : ∀ w1, w1.rowIs w.heap.size 5 n (rowOf x) → Calls Try.prog 9 #[.slice (some ⟨w.heap.size, 0, none⟩) n n] w1 fun e w' => e = .returned (.tuple #[hdr t id, .int .i64 N]) ∧ Below w1.heap.size w1 w' := by
    intro w1 h1
    rw [et, ei, eN]
    exact (q4 w1 h1).mono fun e w' h => ⟨h.ret, h.below⟩
  clear q4
  have LA' : Hid ((N = 3 ∧ x 2 = 0) → M = 2 ∧ 1 ≤ x 0 ∧ enc t id 0 = x 0 - 1 ∧ enc t id 1 = x 1) := by rw [eM, et, ei, eN]; exact LA
  have LB' : Hid (¬ (N = 3 ∧ x 2 = 0) → M = N ∧ ∀ j, j < N → enc t id j = x j) := by rw [eM, et, ei, eN]; exact LB
  clear LA LB
  have hmc := room_cases id
  rw [← eM] at hmc
  have hM1 : 1 ≤ M := by omega
  have hM3 : M ≤ 3 := by omega
  clear hmc
  have q5 : ∀ (P : Nat) (F : Nat → Value) (wx : World), wx.rowIs P 32 4 F → Calls Try.prog 10 #[.slice (some ⟨P, 0, none⟩) 4 4, hdr t id] wx (PutPost wx P 32 4 F t id) := by
    intro P F wx hr
    exact zzPut P 4 4 32 4 F t id wx (by omega) (by omega) (by omega) (by omega) (Nat.le_refl _) hr
  rw [← et] at ht
  rw [← ei] at hi2 hi
  rw [← eN] at hw hwb i3 i3' q2
  have j1 : ¬ (3 : Int) < (t : Int) := by omega
  have j2 : ¬ (id : Int) < 2 := by omega
  have j3 : ¬ (65599 : Int) < (id : Int) := by omega
  have j4 : ¬ (N : Int) < 1 := by omega
  have j5 : ¬ (3 : Int) < (N : Int) := by omega
  have j6 : ¬ (n : Int) < (N : Int) := by omega
  have f1 : decide ((1048576 : Int) < (n : Int)) = false := by simp; omega
  have f2 : decide ((3 : Int) < (t : Int)) = false := by simp; omega
  have f3 : decide ((id : Int) < 2) = false := by simp; omega
  have f4 : decide ((65599 : Int) < (id : Int)) = false := by simp; omega
  have f5 : decide ((N : Int) < 1) = false := by simp; omega
  have f6 : decide ((3 : Int) < (N : Int)) = false := by simp; omega
  have f7 : decide ((n : Int) < (N : Int)) = false := by simp; omega
  have f7' : decide (n < N) = false := by simp; omega
  have f8 : decide ((M : Int) < 1) = false := by simp; omega
  have f9 : decide ((3 : Int) < (M : Int)) = false := by simp; omega
  have EM : Hid (M = room id) := eM
  clear et ei eN eM
  go_enter Try.func3, Try.ntmps3
  go_wp2_with (first
    | (go_at_call 6; refine q1.mono ?_; rintro e w' ⟨rfl, rfl⟩)
    | (go_at_call 7; refine q2.mono ?_; rintro e w' ⟨rfl, rfl⟩)
    | (go_at_call 8; refine q3.mono ?_; rintro e w1 ⟨rfl, r1, b1⟩)
    | (go_at_call 9; refine (q4' _ r1).mono ?_; rintro e w2 ⟨rfl, b2⟩; have r2 := r1.of_block (w' := w2) (b2.block _ r1.lt); have hs1 := b1.size; have hs2 := b2.size; have bb := b1.trans (b2.mono hs1); clear q1 q2 q3 q4' r1 b1 b2))
  have hs3 : w'.heap.size ≤ w2.heap.size := Nat.le_trans hs1 hs2
  have bh : ((w2.alloc (hobj t id))).rowIs w2.heap.size 29 2 (fun j => if j = 0 then .int .u8 t else .int .u32 id) := World.rowIs_alloc w2 #[.int .u8 t, .int .u32 id] 29 _ (by intro k hk; match k, hk with | 0, _ => rfl | 1, _ => rfl)
  have r0 := r2.alloc (hobj t id)
  have hlt2 := r2.lt
  go_loopg [6] 4 (fun g i wr => ∃ k : Nat, k ≤ 4 ∧ g = 4 - k ∧ i = .int .i64 k ∧ wr.rowIs (w2.heap.size + 1) 32 4 (fun j => if j < k then .int .u8 165 else .int .u8 0) ∧ Below (w2.heap.size + 1) (w2.alloc (hobj t id)) wr)
  case atStart =>
    refine ⟨0, Nat.zero_le _, rfl, rfl, ?_, (Below.refl _ _).alloc (by simp) _⟩
    have := World.rowIs_alloc (w2.alloc (hobj t id)) #[.int .u8 0, .int .u8 0, .int .u8 0, .int .u8 0] 32 (fun j => .int .u8 0) (by intro k hk; match k, hk with | 0, _ => rfl | 1, _ => rfl | 2, _ => rfl | 3, _ => rfl)
    simpa using this
  case round =>
    obtain ⟨k, hk, rfl, rfl, hrow, hbel⟩ := hrel
    by_cases hlt : k < 4
    · have h3 := hrow.cell hlt
      have h4 := hrow.frozen k
      go_wp2
      go_roundg (4 - (k + 1))
      case measure => omega
      case rel => exact ⟨k + 1, by omega, rfl, by go_num, (hrow.set k (.int .u8 165)).congr (fill_step (fun _ => .int .u8 165) _ k), hbel.setCell (Nat.le_refl _) _⟩
    · have : k = 4 := by omega
      subst this
      have bx := bh.of_block (w' := wr) (hbel.block _ (by omega))
      have bx0 : wr.cell? ⟨w2.heap.size, 0, none⟩ = some (.int .u8 t) := bx.cell (i := 0) (by omega)
      have bx1 : wr.cell? ⟨w2.heap.size, 1, none⟩ = some (.int .u32 id) := bx.cell (i := 1) (by omega)
      have src : wr.rowIs w'.heap.size 5 n (rowOf x) := r0.of_block (hbel.block _ (by omega))
      have hcall : Calls Try.prog 10 #[.slice (some ⟨w2.heap.size + 1, 0, none⟩) 4 4, hdr t id] wr.drew (WroteRet w'.heap.size (w2.heap.size + 1) n M t id x w') := by
        refine (q5 (w2.heap.size + 1) _ wr.drew hrow.drew).mono ?_
        rintro e wz ⟨g1, g2, g3, g4⟩
        have em := EM.out
        rw [← em] at g1 g2
        refine ⟨g1, g2.congr fun j hj => by simp [hj], src.of_block (g3 _ src.lt (by omega)), ?_⟩
        exact (((bb.alloc hs3 _).trans (hbel.mono (by omega))).drew).trans (g4 _ (by omega))
      clear q5 bx hrow hbel src r0 bh r2 bb
      go_upto_region 20 with fail
      go_cut [7] from 64 to 66 (fun s7 wx => s7 = .int .i64 M ∧ Wrote w'.heap.size (w2.heap.size + 1) n M t id x w' wx)
      case first =>
        go_region_law ((go_simp; go_at_call 10; refine hcall.mono ?_; rintro e w9 ⟨rfl, HW⟩))
        all_goals (go_wp2_with fail; go_meet; exact ⟨rfl, HW⟩)
      case rest =>
        obtain ⟨rfl, HW⟩ := hcut
        clear hcall bx0 bx1
        go_wp2
        go_loopg [8] (4 - M) (fun g i wz => ∃ k : Nat, M ≤ k ∧ k ≤ 4 ∧ g = 4 - k ∧ i = .int .i64 k ∧ Wrote w'.heap.size (w2.heap.size + 1) n M t id x w' wz)
        case atStart => exact ⟨M, Nat.le_refl _, by omega, rfl, rfl, HW⟩
        case round =>
          obtain ⟨k, hMk, hk, rfl, rfl, HZ⟩ := hrel
          by_cases hlt : k < 4
          · have h3 := HZ.row.cell hlt
            rw [if_neg (by omega)] at h3
            go_wp2
            go_roundg (4 - (k + 1))
            case measure => omega
            case rel => exact ⟨k + 1, by omega, by omega, rfl, by go_num, HZ⟩
          · have : k = 4 := by omega
            subst this
            by_cases hA : N = 3 ∧ x 2 = 0
            · obtain ⟨l1, l2, l3, l4⟩ := LA'.out hA
              obtain ⟨rfl, hx2⟩ := hA
              subst l1
              have g0 : wr.cell? ⟨w2.heap.size + 1, 0, none⟩ = some (.int .u8 (enc t id 0)) := HZ.row.cell (i := 0) (by omega)
              have g1 : wr.cell? ⟨w2.heap.size + 1, 1, none⟩ = some (.int .u8 (enc t id 1)) := HZ.row.cell (i := 1) (by omega)
              have s0 : wr.cell? ⟨w'.heap.size, 0, none⟩ = some (.int .u8 (x 0)) := HZ.src.cell (i := 0) (by omega)
              have s1 : wr.cell? ⟨w'.heap.size, 1, none⟩ = some (.int .u8 (x 1)) := HZ.src.cell (i := 1) (by omega)
              have s2 : wr.cell? ⟨w'.heap.size, 2, none⟩ = some (.int .u8 (x 2)) := HZ.src.cell (i := 2) (by omega)
              rw [l3] at g0
              rw [l4] at g1
              rw [hx2] at s2
              obtain ⟨y, hy⟩ : ∃ y, x 0 = y + 1 := ⟨x 0 - 1, by omega⟩
              rw [hy] at g0 s0 l2
              have hy2 := hx 0
              rw [hy] at hy2
              rw [Nat.add_sub_cancel] at g0
              clear l3 l4 LA' LB' EM
              go_wp2
              go_quiet (fail)
              go_wp2
              go_ret
              exact ⟨rfl, (HZ.drewN _).below⟩
            · obtain ⟨l1, l2⟩ := LB'.out hA
              subst l1
              have HB : Hid (∀ j, j < M → enc t id j = x j) := l2
              clear l2 LA' LB' EM
              by_cases hN : M = 3
              · have s2 : wr.cell? ⟨w'.heap.size, 2, none⟩ = some (.int .u8 (x 2)) := HZ.src.cell (i := 2) (by omega)
                have e2 : ((x 2 : Int) == 0) = false := by simp; omega
                have e3 : ((M : Int) == 3) = true := by simp; omega
                have e4 : (2 : Int) < (n : Int) := by omega
                have e5 : 2 < n := by omega
                clear hA
                go_wp2
                go_loopg [9] M (fun g i wz => ∃ k : Nat, k ≤ M ∧ g = M - k ∧ i = .int .i64 k ∧ Wrote w'.heap.size (w2.heap.size + 1) n M t id x w' wz)
                case atStart => exact ⟨0, Nat.zero_le _, rfl, rfl, HZ⟩
                case round =>
                  clear HZ
                  obtain ⟨k, hk, rfl, rfl, HZ⟩ := hrel
                  by_cases hlk : k < M
                  · have g0 := HZ.row.cell (i := k) (by omega)
                    rw [if_pos hlk, HB.out k hlk] at g0
                    have s0 : wr.cell? ⟨w'.heap.size, k, none⟩ = some (.int .u8 (x k)) := HZ.src.cell (by omega)
                    have k1 : (0 : Int) ≤ (k : Int) := by omega
                    have k2 : (k : Int) < 4 := by omega
                    have k3 : (k : Int) < (n : Int) := by omega
                    have k4 : k < 4 := by omega
                    have k5 : k < n := by omega
                    have k6 : decide ((k : Int) < (M : Int)) = true := by simp; omega
                    have k7 : decide (k < M) = true := by simp; omega
                    go_wp2
                    go_quiet (fail)
                    go_wp2
                    go_roundg (M - (k + 1))
                    case measure => omega
                    case rel => exact ⟨k + 1, by omega, rfl, by go_num, HZ.drewN _⟩
                  · have : k = M := by omega
                    subst this
                    go_wp2
                    go_ret
                    exact ⟨rfl, HZ.below⟩
              · have e3 : ((M : Int) == 3) = false := by simp; omega
                clear hA
                go_wp2
                go_loopg [9] M (fun g i wz => ∃ k : Nat, k ≤ M ∧ g = M - k ∧ i = .int .i64 k ∧ Wrote w'.heap.size (w2.heap.size + 1) n M t id x w' wz)
                case atStart => exact ⟨0, Nat.zero_le _, rfl, rfl, HZ⟩
                case round =>
                  clear HZ
                  obtain ⟨k, hk, rfl, rfl, HZ⟩ := hrel
                  by_cases hlk : k < M
                  · have g0 := HZ.row.cell (i := k) (by omega)
                    rw [if_pos hlk, HB.out k hlk] at g0
                    have s0 : wr.cell? ⟨w'.heap.size, k, none⟩ = some (.int .u8 (x k)) := HZ.src.cell (by omega)
                    have k1 : (0 : Int) ≤ (k : Int) := by omega
                    have k2 : (k : Int) < 4 := by omega
                    have k3 : (k : Int) < (n : Int) := by omega
                    have k4 : k < 4 := by omega
                    have k5 : k < n := by omega
                    have k6 : decide ((k : Int) < (M : Int)) = true := by simp; omega
                    have k7 : decide (k < M) = true := by simp; omega
                    go_wp2
                    go_quiet (fail)
                    go_wp2
                    go_roundg (M - (k + 1))
                    case measure => omega
                    case rel => exact ⟨k + 1, by omega, rfl, by go_num, HZ.drewN _⟩
                  · have : k = M := by omega
                    subst this
                    go_wp2
                    go_ret
                    exact ⟨rfl, HZ.below⟩

theorem back_long (a : Option Addr) (n cap : Nat) (w : World) (hn : n ≤ maxLen) (h : ¬ n ≤ 1048576) : Calls Try.prog 3 #[.slice a n cap] w (Done w) := by
  have q1 := bytes_parse a n cap w hn
  have d1 : decide (n ≤ 1048576) = false := by simpa using h
  go_enter Try.func3, Try.ntmps3
  go_wp2_with (go_at_call 6; refine q1.mono ?_; rintro e w' ⟨rfl, rfl⟩)
  go_ret
  exact ⟨rfl, Below.refl _ _⟩

theorem back_none (a : Option Addr) (cap : Nat) (w : World) : Calls Try.prog 3 #[.slice a 0 cap] w (Done w) := by
  have q1 := bytes_parse a 0 cap w (Nat.zero_le _)
  have d1 : decide (0 ≤ 1048576) = true := by simp
  go_enter Try.func3, Try.ntmps3
  go_wp2_with (go_at_call 6; refine q1.mono ?_; rintro e w' ⟨rfl, rfl⟩)
  go_ret
  exact ⟨rfl, Below.refl _ _⟩

theorem back_short (b o n cap : Nat) (y : Nat) (w : World) (hn : n ≤ 1048576) (hn0 : 1 ≤ n) (hy : y < 256) (hw : n < wl y) (hc : w.cell? ⟨b, o, none⟩ = some (.int .u8 y)) :
    Calls Try.prog 3 #[.slice (some ⟨b, o, none⟩) n cap] w (Done w) := by
  have q1 := bytes_parse (some ⟨b, o, none⟩) n cap w (by unfold maxLen; omega)
  have q2 := wireLen y hy w
  have d1 : decide (n ≤ 1048576) = true := by simpa using hn
  have i1 : ¬ (1048576 : Int) < (n : Int) := by omega
  have i2 : ¬ ((n : Int) = 0) := by omega
  have i3 : (n : Int) < (wl y : Int) := by omega
  have i7 : (0 : Int) < (n : Int) := by omega
  go_enter Try.func3, Try.ntmps3
  go_wp2_with (first
    | (go_at_call 6; refine q1.mono ?_; rintro e w' ⟨rfl, rfl⟩)
    | (go_at_call 7; refine q2.mono ?_; rintro e w' ⟨rfl, rfl⟩))
  go_ret
  exact ⟨rfl, Below.refl _ _⟩

end Go.Proofs.Qxb6602671a
