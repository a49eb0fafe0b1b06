/-
  'zzTranspose': the reversed adjacency lists.
-/
import Derived.Test.Qxb6600569aAdj
namespace Go.Proofs.Qxb6600569a
open Go.RowKit
open Tj (upd upd_same upd_other)
set_option linter.unusedVariables false

/-- One row's edges turned round. -/
def transRow (u : Nat) : List Nat → (Nat → List Nat) → Nat → List Nat
  | [], r => r
  | v :: l, r => transRow u l (upd r v (r v ++ [u]))

def transTo (g : Nat → List Nat) : Nat → Nat → List Nat
  | 0 => fun _ => []
  | u + 1 => transRow u (g u) (transTo g u)

theorem transRow_snoc (u v : Nat) (l : List Nat) : ∀ r, transRow u (l ++ [v]) r = upd (transRow u l r) v (transRow u l r v ++ [u]) := by
  induction l with
  | nil => intro r; rfl
  | cons x l ih => intro r; exact ih _

theorem transRow_len (u v : Nat) (l : List Nat) : ∀ r, (transRow u l r v).length ≤ (r v).length + l.length := by
  induction l with
  | nil => intro r; simp [transRow]
  | cons x l ih =>
    intro r
    refine Nat.le_trans (ih _) ?_
    by_cases e : v = x
    · subst e; rw [upd_same]; simp only [List.length_append, List.length_cons, List.length_nil]; omega
    · rw [upd_other _ _ _ _ e]; simp only [List.length_cons]; omega

theorem transTo_len (g : Nat → List Nat) (D : Nat) (hD : ∀ u, (g u).length ≤ D) (m v : Nat) : (transTo g m v).length ≤ m * D := by
  induction m with
  | zero => simp [transTo]
  | succ m ih =>
    have h1 := transRow_len m v (g m) (transTo g m)
    have h2 := hD m
    rw [Nat.succ_mul]
    simp only [transTo]
    omega

theorem mem_transRow (u x v : Nat) (l : List Nat) : ∀ r, x ∈ transRow u l r v ↔ x ∈ r v ∨ (x = u ∧ v ∈ l) := by
  induction l with
  | nil => intro r; simp [transRow]
  | cons y l ih =>
    intro r
    simp only [transRow]
    rw [ih]
    by_cases e : v = y
    · subst e
      rw [upd_same, List.mem_append, List.mem_singleton, List.mem_cons]
      constructor
      · rintro ((h | h) | h)
        · exact .inl h
        · exact .inr ⟨h, .inl rfl⟩
        · exact .inr ⟨h.1, .inr h.2⟩
      · rintro (h | ⟨h, _⟩)
        · exact .inl (.inl h)
        · exact .inl (.inr h)
    · rw [upd_other _ _ _ _ e]; simp [e]

theorem mem_transTo (g : Nat → List Nat) (x v m : Nat) : x ∈ transTo g m v ↔ x < m ∧ v ∈ g x := by
  induction m with
  | zero => simp [transTo]
  | succ m ih =>
    simp only [transTo]
    rw [mem_transRow, ih]
    constructor
    · rintro (h | ⟨rfl, h⟩)
      · exact ⟨by omega, h.2⟩
      · exact ⟨by omega, h⟩
    · rintro ⟨h1, h2⟩
      by_cases e : x = m
      · exact .inr ⟨e, e ▸ h2⟩
      · exact .inl ⟨by omega, h2⟩

set_option maxHeartbeats 1000000 in
set_option maxRecDepth 100000 in
theorem trans_any (base b n cap : Nat) (g : Nat → List Nat) (w : World) (hn : n ≤ 65536) (hg : AdjIs w base b n g) (hdeg : ∀ u, (g u).length ≤ 65536) (hin : ∀ u, u < n → ∀ v ∈ g u, v < n) :
    Calls Try.prog 33 #[.slice (some ⟨b, 0, none⟩) n cap] w (AdjPost w n (transTo g n)) := by
  have hmk := run_make_row' (P := Try.prog) 52 59 (.slice none 0 0) 24 Try.underlying52 Try.info59 rfl .i64 .i64 n (by omega) (by omega)
  obtain ⟨i0, hi, hz0, hz1, hz2⟩ := info_parts Try.info3
  obtain ⟨A, hadj⟩ := hg
  go_enter Try.func33, Try.ntmps33
  go_wp2
  go_loopg [4, 5, 6] n (fun q i j x wr => ∃ u : Nat, u ≤ n ∧ q = n - u ∧ i = .int .i64 u ∧ AdjIs wr w.heap.size w.heap.size n (transTo g u) ∧ Below w.heap.size w wr)
  case atStart => exact ⟨0, Nat.zero_le _, rfl, rfl, ⟨_, Fam.made w w.heap.size 59 3 1 n (Nat.le_refl _)⟩, (Below.refl _ _).alloc (Nat.le_refl _) _⟩
  case round =>
    obtain ⟨u, hu, rfl, rfl, ⟨R, hfam⟩, hbel⟩ := hrel
    by_cases hlt : u < n
    · go_wp2
      go_loopg [5, 6] (g u).length (fun q j x wr => ∃ k : Nat, k ≤ (g u).length ∧ q = (g u).length - k ∧ j = .int .i64 k ∧ AdjIs wr w.heap.size w.heap.size n (transRow u ((g u).take k) (transTo g u)) ∧ Below w.heap.size w wr)
      case atStart => exact ⟨0, Nat.zero_le _, rfl, rfl, ⟨R, hfam⟩, hbel⟩
      case round =>
        clear hfam hbel
        obtain ⟨k, hk, rfl, rfl, ⟨R, hfam⟩, hbel⟩ := hrel
        by_cases hlk : k < (g u).length
        · obtain ⟨ga, ca, hA, hga, hcA⟩ := hadj.cells hlt (by omega)
          have c1 := cell_keep hbel (Nat.le_refl _) (hadj.row.cell hlt)
          rw [hA] at c1
          have c2 := hcA k (by omega)
          rw [List.getElem?_map, List.getElem?_eq_getElem hlk] at c2
          have c3 := cell_keep hbel (Nat.le_refl _) c2
          simp only [I] at c3
          clear c2
          obtain ⟨t, ht⟩ : ∃ t, t = (g u)[k] := ⟨_, rfl⟩
          rw [← ht] at c3
          have htn : t < n := by rw [ht]; exact hin u hlt _ (List.getElem_mem hlk)
          have HT : Hid (t = (g u)[k]) := ht
          clear ht
          have c4 := hfam.row.cell htn
          have c5 := hfam.row.frozen t
          have hdu := hdeg u
          have hsz := hbel.size
          have hro := hfam.own t htn
          obtain ⟨q, hq⟩ : ∃ q, q = transRow u ((g u).take k) (transTo g u) := ⟨_, rfl⟩
          have hlE : (q t).length ≤ 4295098368 := by
            have h1 := transRow_len u t ((g u).take k) (transTo g u)
            have h2 := transTo_len g 65536 hdeg u t
            have h3 : ((g u).take k).length ≤ 65536 := by rw [List.length_take]; omega
            rw [hq]; omega
          rw [← hq] at hfam hro
          have HQ : Hid (q = transRow u ((g u).take k) (transTo g u)) := hq
          clear hq
          go_wp2_with (at_builtin; refine wpList_append_lies _ rfl (.tmp 37) (.tmp 39) 59 rfl w.heap.size 3 i0 (.int .i64 0) 1 8 Try.underlying59 hi hz0 hz1 hz2 rfl (by decide) (R t) (q t).length ((q t).map I) rfl (hro.alloc _) ⟨wr.heap.size, 0, none⟩ 1 1 [.int .i64 u] rfl rfl (cell_one_new _ _ _) ?h1 (by decide) ?h2 ?h3 ?h4 (wr.heap.size + 1) (by simp) ?_)
          case h1 => intro x hx; simp at hx; subst hx; rfl
          case h2 => unfold maxLen; omega
          case h3 => omega
          case h4 => simp; omega
          intro g1 cap1 w1 hown hgrow hat hlt1
          obtain ⟨q3, q4, HF, HB⟩ := hfam.grown htn (fun k hk => Below.heap_alloc wr _ k hk) hown hgrow (by simpa using hat)
          clear hown hgrow hat hlt1 hro c1 c3 c4 c5
          go_wp2
          go_roundg ((g u).length - (k + 1))
          case measure => omega
          case rel =>
            refine ⟨k + 1, by omega, rfl, by go_num, ⟨_, HF.congr (fun _ _ => rfl) (fun i _ => ?_) (fun i _ => ?_)⟩, (HB _ (Nat.le_refl _) w (hbel.alloc hsz _)).setCell (Nat.le_refl _) _⟩
            · rw [List.take_succ_eq_append_getElem hlk, transRow_snoc, ← HT.out, ← HQ.out]
              by_cases e : i = t
              · subst e; simp [upd_same]
              · simp [upd_other _ _ _ _ e]
            · rw [List.take_succ_eq_append_getElem hlk, transRow_snoc, ← HT.out, ← HQ.out]
              by_cases e : i = t
              · subst e; simp [upd_same, I]
              · simp [upd_other _ _ _ _ e]
        · have : k = (g u).length := by omega
          subst this
          have c1 := cell_keep hbel (Nat.le_refl _) (hadj.row.cell hlt)
          obtain ⟨ah, ch, hA⟩ := hadj.header hlt
          rw [hA] at c1
          go_wp2
          go_roundg (n - (u + 1))
          case measure => omega
          case rel => exact ⟨u + 1, by omega, rfl, by go_num, ⟨R, by simpa [transTo] using hfam⟩, hbel⟩
    · have : u = n := by omega
      subst this
      go_wp2
      go_ret
      exact ⟨rfl, ⟨R, hfam⟩, hbel⟩

end Go.Proofs.Qxb6600569a
