/-
  'Rows.FnComponentsAreTheStronglyConnectedClassesSaid' PROVED. The frame is the shell's, written by the kit's program for this function; the walk is Qxb6600569aClassWalk.lean's.
-/
import Derived.Test.Qxb6600569aRows
import Derived.WalkKit
import Derived.ProofKit
import Derived.OpenShut
import Derived.ShutString
import Derived.ChangeOld
import Derived.Below
import Derived.Test.Qxb6600569aClassWalk
namespace Go.Proofs.Qxb6600569a.fnComponentsAreTheStronglyConnectedClasses
open Go.ChangeShapes Go.WideShapes Go.ChangeAt Go.RowKit
open Go.ChangeMaps (open_string shut_string)
set_option linter.unusedVariables false

theorem own : ownKnob Try.prog.godebug = none := by kernel_rfl
theorem laidOut : laidOutB Try.prog = true := by kernel_rfl

/-- WHAT THE WALK IS TOLD OF A SLICE OF INTEGERS THAT CAME IN: it is nil; or it leads to a row of 'cap' cells, the numbers 'zs' (the first 'len' are its elements, the rest its spare room), each fitting its kind. -/
def IsRow (k : IntKind) (w : World) (a : Option Addr) (len cap : Nat) (zs : List Int) : Prop :=
  (a = none ∧ len = 0 ∧ cap = 0 ∧ zs = []) ∨
  ∃ x, a = some x ∧ len ≤ cap ∧ cap ≤ maxLen ∧ zs.length = cap ∧ (∀ i, i < zs.length → w.cell? (x.add i) = some (.int k (zs.getD i 0))) ∧ ∀ n ∈ zs, (Lit.int k n).wf = true

/-- An element of a row of uint16 as a natural number. -/
def asNat (zs : List Int) (j : Nat) : Nat := (zs.getD j 0).toNat

theorem asNat_wf {zs : List Int} (h : ∀ n ∈ zs, (Lit.int .u16 n).wf = true) (j : Nat) : ((asNat zs j : Nat) : Int) = zs.getD j 0 ∧ asNat zs j ≤ 65535 := by
  have hb : 0 ≤ zs.getD j 0 ∧ zs.getD j 0 ≤ 65535 := by
    by_cases hj : j < zs.length
    · have := h (zs.getD j 0) (by simp [List.getD, hj])
      have := bounds_u16 this
      omega
    · simp [List.getD, List.getElem?_eq_none (Nat.le_of_not_lt hj)]
  unfold asNat
  omega

theorem row_parts {w : World} {a : Option Addr} {len cap : Nat} {zs : List Int} (h : IsRow .u16 w a len cap zs) :
    len ≤ maxLen ∧ (a = none → len = 0 ∧ cap = 0) ∧ Rd w a len (fun j => .int .u16 (asNat zs j)) ∧ ∀ j, asNat zs j ≤ 65535 := by
  rcases h with ⟨rfl, rfl, rfl, rfl⟩ | ⟨x, rfl, hl, hm, hz, hc, hw⟩
  · exact ⟨Nat.zero_le _, fun _ => ⟨rfl, rfl⟩, fun j hj => by omega, fun j => by simp [asNat]⟩
  · refine ⟨by omega, fun e => by simp at e, Rd.of_add fun j hj => ?_, fun j => (asNat_wf hw j).2⟩
    rw [(asNat_wf hw j).1]
    exact hc j (by omega)

theorem bytes_no (f : Nat) (hf : f = 30 ∨ f = 34) (n : Int) (a1 a2 : Option Addr) (l1 c1 l2 c2 : Nat) (w : World) (h1 : l1 ≤ maxLen) (h2 : l2 ≤ maxLen) (h : ¬ l1 + l2 ≤ 1048576) :
    Calls Try.prog f #[.int .i64 n, .slice a1 l1 c1, .slice a2 l2 c2] w fun e w' => e = .returned (.bool false) ∧ w = w' := by
  refine (bytes_two f hf n a1 a2 l1 c1 l2 c2 w h1 h2).mono ?_
  rintro e w' ⟨rfl, rfl⟩
  exact ⟨ret_bool (decide_eq_false h), rfl⟩

/-! ### STEP 1: THE WALK: the Go text returns true, AND WRITES NOTHING THAT WAS THERE: 'Below w.heap.size w w'' (Derived/Below.lean: '.refl', '.alloc', '.drew', '.setCell' at a new block, '.trans'). Open each 'IsRow' by 'rcases' AHEAD of 'go_enter'; part every test ahead of the walk. -/
set_option maxHeartbeats 1000000 in
set_option maxRecDepth 100000 in
theorem walk (a0 : Int) (a1 : Option Addr) (len1 cap1 : Nat) (z1 : List Int) (a2 : Option Addr) (len2 cap2 : Nat) (z2 : List Int) (w : World) (w0 : (Lit.int .i64 a0).wf = true) (w1 : IsRow .u16 w a1 len1 cap1 z1) (w2 : IsRow .u16 w a2 len2 cap2 z2) :
    Calls Try.prog 7 #[.int .i64 a0, .slice a1 len1 cap1, .slice a2 len2 cap2] w fun e w' => e = .returned (.bool true) ∧ Below w.heap.size w w' := by
  have hl1 : len1 ≤ maxLen ∧ (a1 = none → len1 = 0 ∧ cap1 = 0) ∧ Rd w a1 len1 (fun j => .int .u16 (asNat z1 j)) ∧ ∀ j, asNat z1 j ≤ 65535 := row_parts w1
  have hl2 : len2 ≤ maxLen ∧ (a2 = none → len2 = 0 ∧ cap2 = 0) ∧ Rd w a2 len2 (fun j => .int .u16 (asNat z2 j)) ∧ ∀ j, asNat z2 j ≤ 65535 := row_parts w2
  obtain ⟨m1, n1, r1, b1⟩ := hl1
  obtain ⟨m2, n2, r2, b2⟩ := hl2
  by_cases hb : len1 + len2 ≤ 1048576
  · by_cases h1 : len1 ≤ 65536
    · by_cases h2 : len2 ≤ 65536
      · by_cases h3 : 0 ≤ a0 ∧ a0 ≤ 65536
        · obtain ⟨n, rfl⟩ := Int.eq_ofNat_of_zero_le h3.1
          refine (cls_main n a1 a2 len1 cap1 len2 cap2 _ _ w (by omega) h1 h2 n1 n2 r1 r2 b1 b2).mono ?_
          rintro e w' ⟨rfl, hbel⟩
          exact ⟨rfl, hbel⟩
        · clear r1 r2 b1 b2 n1 n2 w1 w2 w0
          have d1 : decide ((65536 : Int) < (len1 : Int)) = false := decide_eq_false (by omega)
          have d2 : decide ((65536 : Int) < (len2 : Int)) = false := decide_eq_false (by omega)
          by_cases h4 : a0 < 0
          · have d4 : decide (a0 < 0) = true := decide_eq_true h4
            go_enter Try.func7, Try.ntmps7
            go_wp2_with (go_at_call 30; refine (bytes_yes 30 (.inl rfl) _ _ _ _ _ _ _ _ hb).mono ?_; rintro e w' ⟨rfl, rfl⟩)
            go_ret
            exact ⟨rfl, Below.refl _ _⟩
          · have d4 : decide (a0 < 0) = false := decide_eq_false h4
            have h5 : 65536 < a0 := by omega
            have d5 : decide ((65536 : Int) < a0) = true := decide_eq_true h5
            go_enter Try.func7, Try.ntmps7
            go_wp2_with (go_at_call 30; refine (bytes_yes 30 (.inl rfl) _ _ _ _ _ _ _ _ hb).mono ?_; rintro e w' ⟨rfl, rfl⟩)
            go_ret
            exact ⟨rfl, Below.refl _ _⟩
      · clear r1 r2 b1 b2 n1 n2 w1 w2 w0
        have d1 : decide ((65536 : Int) < (len1 : Int)) = false := decide_eq_false (by omega)
        have d2 : decide ((65536 : Int) < (len2 : Int)) = true := decide_eq_true (by omega)
        go_enter Try.func7, Try.ntmps7
        go_wp2_with (go_at_call 30; refine (bytes_yes 30 (.inl rfl) _ _ _ _ _ _ _ _ hb).mono ?_; rintro e w' ⟨rfl, rfl⟩)
        go_ret
        exact ⟨rfl, Below.refl _ _⟩
    · clear r1 r2 b1 b2 n1 n2 w1 w2 w0
      have d1 : decide ((65536 : Int) < (len1 : Int)) = true := decide_eq_true (by omega)
      go_enter Try.func7, Try.ntmps7
      go_wp2_with (go_at_call 30; refine (bytes_yes 30 (.inl rfl) _ _ _ _ _ _ _ _ hb).mono ?_; rintro e w' ⟨rfl, rfl⟩)
      go_ret
      exact ⟨rfl, Below.refl _ _⟩
  · clear r1 r2 b1 b2 n1 n2 w1 w2 w0
    go_enter Try.func7, Try.ntmps7
    go_wp2_with (go_at_call 30; refine (bytes_no 30 (.inl rfl) _ _ _ _ _ _ _ _ m1 m2 hb).mono ?_; rintro e w' ⟨rfl, rfl⟩)
    go_ret
    exact ⟨rfl, Below.refl _ _⟩

/-! ### THE ROW's STEP: WRITTEN OUT: LEAVE IT -/
set_option maxRecDepth 100000 in
theorem lifted (os : Os) (started : os.Started) (H : Type) (enc : TypeId × Value → H) :
    ReturnsInHanded {} Try.checked os 7 .any (Rows.fnComponentsAreTheStronglyConnectedClassesSpec.pre6 enc Try.prog Try.f7 Rows.fnComponentsAreTheStronglyConnectedClassesRow.domain false) (Rows.fnComponentsAreTheStronglyConnectedClassesSpec.post enc Try.prog Try.f7 false true false false) := by
  refine returnsInHanded_of_change (C := Try.checked) own started (by kernel_rfl) Try.func7
    (ChangeSpec.witness6 (enc := enc) (C := Try.checked) false ⟨#[], #[.int .i64 0, .slice none 0 0, .slice none 0 0], []⟩ 8 (by kernel_rfl) (by kernel_rfl) (by kernel_rfl) (by kernel_rfl)) ?_
  intro W base args ds gs before hval0 hW hcnd _
  have hval : ∀ (j : Nat) t v, Try.f7.params[j]? = some t → args[j]? = some v → Value.okWide Try.prog W .any base t v := hval0
  have hW' := hW
  obtain ⟨p, q, hA0, hV, rfl, hfz, hnd⟩ := hW
  have hA : DataW.TrodAll enc Try.prog W 0 (fun _ => true) true Try.f7.params.toList args.toList ds p := hA0
  rw [Try.params7] at hA hval
  obtain ⟨v0, vs0, d0, ds0, p0, q0, hargs, rfl, rfl, h0, r0⟩ := trodAll_cons hA
  obtain ⟨v1, vs1, d1, ds1, p1, q1, rfl, rfl, rfl, h1, r1⟩ := trodAll_cons r0
  obtain ⟨v2, vs2, d2, ds2, p2, q2, rfl, rfl, rfl, h2, r2⟩ := trodAll_cons r1
  obtain ⟨rfl, rfl, rfl⟩ := trodAll_nil r2
  obtain rfl : args = #[v0, v1, v2] := by cases args; simp_all
  obtain ⟨rfl, rfl⟩ := trodVars_none hV
  obtain ⟨a0, rfl, rfl, rfl, w0⟩ := open_int Try.underlying3 (hval 0 3 v0 rfl rfl) h0
  obtain ⟨a1, len1, cap1, rfl⟩ := okWide_slice Try.underlying47 (hval 1 47 v1 rfl rfl)
  have k1 := h1
  have lt1 : ∀ x ∈ p1, x.block < W.heap.size := by obtain ⟨m, hm⟩ := k1; exact DataW.trod_lt m _ _ _ hm
  obtain ⟨z1, w1⟩ : ∃ zs, IsRow .u16 W a1 len1 cap1 zs := by
    obtain ⟨fuel, hf⟩ := h1
    rcases open_ints Try.underlying47 Try.underlying76 (by kernel_rfl) hf with ⟨hcs, _⟩ | ⟨x, l, c, zs, hcs, _, hl, hm, hz, _, hcell, hwz⟩
    · simp [Value.cells] at hcs
      obtain ⟨rfl, rfl, rfl⟩ := hcs
      exact ⟨[], .inl ⟨rfl, rfl, rfl, rfl⟩⟩
    · simp [Value.cells] at hcs
      obtain ⟨rfl, rfl, rfl⟩ := hcs
      exact ⟨zs, .inr ⟨_, rfl, hl, hm, by simpa using hz, hcell, hwz⟩⟩
  obtain ⟨a2, len2, cap2, rfl⟩ := okWide_slice Try.underlying47 (hval 2 47 v2 rfl rfl)
  have k2 := h2
  have lt2 : ∀ x ∈ p2, x.block < W.heap.size := by obtain ⟨m, hm⟩ := k2; exact DataW.trod_lt m _ _ _ hm
  obtain ⟨z2, w2⟩ : ∃ zs, IsRow .u16 W a2 len2 cap2 zs := by
    obtain ⟨fuel, hf⟩ := h2
    rcases open_ints Try.underlying47 Try.underlying76 (by kernel_rfl) hf with ⟨hcs, _⟩ | ⟨x, l, c, zs, hcs, _, hl, hm, hz, _, hcell, hwz⟩
    · simp [Value.cells] at hcs
      obtain ⟨rfl, rfl, rfl⟩ := hcs
      exact ⟨[], .inl ⟨rfl, rfl, rfl, rfl⟩⟩
    · simp [Value.cells] at hcs
      obtain ⟨rfl, rfl, rfl⟩ := hcs
      exact ⟨zs, .inr ⟨_, rfl, hl, hm, by simpa using hz, hcell, hwz⟩⟩
  clear hA0 hval0
  refine (walk a0 a1 len1 cap1 z1 a2 len2 cap2 z2 W w0 w1 w2).mono fun e W' ⟨he, bel⟩ => ?_
  subst he
  exact ⟨_, rfl, _, _, _, [], _, [], hW', trodAll_mk1 (shut_bool Try.underlying4 _), (trodAll_cons_mk (shut_int Try.underlying3 w0) (trodAll_cons_mk (Below.trod laidOut (by kernel_rfl) (of_decide_eq_true (by kernel_rfl)) k1 bel lt1) (trodAll_cons_mk (Below.trod laidOut (by kernel_rfl) (of_decide_eq_true (by kernel_rfl)) k2 bel lt2) trodAll_mk0))), rfl, bel.frame _, fun h => by cases h⟩

theorem over : Rows.fnComponentsAreTheStronglyConnectedClassesRow.holds Try.pinned (OpenSpec.ofChange Rows.fnComponentsAreTheStronglyConnectedClassesSpec) :=
  OpenClaim.holds_of_wide 7 Try.f7 rfl rfl rfl rfl rfl rfl rfl ⟨rfl, rfl, rfl, rfl, rfl⟩ rfl rfl rfl rfl rfl (by kernel_rfl) Try.func7 (by kernel_rfl)
    (of_decide_eq_true (by kernel_rfl)) (by unfold Func.isWrapper; first | (rw [if_pos (by decide +kernel)]; kernel_rfl) | (rw [if_neg (by decide +kernel)]; exact ⟨rfl, rfl⟩))
    (fun os started H enc _ => lifted os started H enc)

/-- ████ THE STATEMENT ████ -/
theorem proved : Rows.FnComponentsAreTheStronglyConnectedClassesSaid := over
#print axioms proved
end Go.Proofs.Qxb6600569a.fnComponentsAreTheStronglyConnectedClasses
