/-
  'Rows.FnRealTimePathsLinkExactlyEarlierFinishToLaterStartSaid' PROVED. The frame after the kit's shell for a law over slices, typed for slices of int64, bool and uint16.
-/
import Derived.Test.Qxb6600569aRows
import Derived.WalkKit
import Derived.ProofKit
import Derived.OpenShut
import Derived.ChangeOld
import Derived.Below
import Derived.Test.Qxb6600569aOpen
import Derived.Test.Qxb6600569aPtWalk
namespace Go.Proofs.Qxb6600569a.fnRealTimePathsLinkExactlyEarlierFinishToLaterStart
open Go.ChangeShapes Go.WideShapes Go.ChangeAt Go.RowKit
set_option linter.unusedVariables false

theorem own : ownKnob Try.prog.godebug = none := by kernel_rfl
theorem laidOut : laidOutB Try.prog = true := by kernel_rfl

set_option maxHeartbeats 1000000 in
set_option maxRecDepth 100000 in
/-- THE WALK, for whatever lengths. -/
theorem walk (a1 a2 a3 a4 a5 : Option Addr) (l1 l2 l3 l4 l5 c1 c2 c3 c4 c5 : Nat) (s f : Nat → Int) (ab : Nat → Bool) (fr tg : Nat → Nat) (w : World) (m1 : l1 ≤ maxLen) (m2 : l2 ≤ maxLen) (m3 : l3 ≤ maxLen) (m4 : l4 ≤ maxLen) (m5 : l5 ≤ maxLen)
    (hF : Five w a1 a2 a3 a4 a5 l1 l2 l3 l4 l5 c1 c2 c3 c4 c5 s f ab fr tg) :
    Calls Try.prog 5 #[.slice a1 l1 c1, .slice a2 l2 c2, .slice a3 l3 c3, .slice a4 l4 c4, .slice a5 l5 c5] w fun e w' => e = .returned (.bool true) ∧ Below w.heap.size w w' := by
  have hcase : (l1 ≤ 65536 ∧ l2 ≤ 65536 ∧ l3 ≤ 65536 ∧ l4 ≤ 65536 ∧ l5 ≤ 65536) ∨ (65536 < l1) ∨ (l1 ≤ 65536 ∧ 65536 < l2) ∨ (l1 ≤ 65536 ∧ l2 ≤ 65536 ∧ 65536 < l3) ∨ (l1 ≤ 65536 ∧ l2 ≤ 65536 ∧ l3 ≤ 65536 ∧ 65536 < l4) ∨ (l1 ≤ 65536 ∧ l2 ≤ 65536 ∧ l3 ≤ 65536 ∧ l4 ≤ 65536 ∧ 65536 < l5) := by omega
  have HB : Hid (Calls Try.prog 19 #[.slice a1 l1 c1, .slice a2 l2 c2, .slice a3 l3 c3, .slice a4 l4 c4, .slice a5 l5 c5] w fun e w' => e = .returned (.bool (decide (l1 + l2 + l3 + l4 + l5 ≤ 1048576))) ∧ w' = w) := bytes_paths a1 a2 a3 a4 a5 l1 c1 l2 c2 l3 c3 l4 c4 l5 c5 w m1 m2 m3 m4 m5
  rcases hcase with ⟨h1, h2, h3, h4, h5⟩ | h1 | ⟨h1, h2⟩ | ⟨h1, h2, h3⟩ | ⟨h1, h2, h3, h4⟩ | ⟨h1, h2, h3, h4, h5⟩
  · refine (pt_main a1 a2 a3 a4 a5 l1 l2 l3 l4 l5 c1 c2 c3 c4 c5 s f ab fr tg w h1 h2 h3 h4 h5 hF).mono ?_
    rintro e w' ⟨rfl, hbel⟩
    exact ⟨rfl, hbel⟩
  · clear hF
    have d1 : decide ((65536 : Int) < (l1 : Int)) = true := decide_eq_true (by omega)
    go_enter Try.func5, Try.ntmps5
    go_wp2_with fail
    refine HB.out.mono ?_
    rintro e w' ⟨rfl, rfl⟩
    cases hbb : decide (l1 + l2 + l3 + l4 + l5 ≤ 1048576)
    all_goals
      go_wp2
      go_ret
      exact ⟨rfl, Below.refl _ _⟩
  · clear hF
    have d1 : decide ((65536 : Int) < (l1 : Int)) = false := decide_eq_false (by omega)
    have d2 : decide ((65536 : Int) < (l2 : Int)) = true := decide_eq_true (by omega)
    go_enter Try.func5, Try.ntmps5
    go_wp2_with fail
    refine HB.out.mono ?_
    rintro e w' ⟨rfl, rfl⟩
    cases hbb : decide (l1 + l2 + l3 + l4 + l5 ≤ 1048576)
    all_goals
      go_wp2
      go_ret
      exact ⟨rfl, Below.refl _ _⟩
  · clear hF
    have d1 : decide ((65536 : Int) < (l1 : Int)) = false := decide_eq_false (by omega)
    have d2 : decide ((65536 : Int) < (l2 : Int)) = false := decide_eq_false (by omega)
    have d3 : decide ((65536 : Int) < (l3 : Int)) = true := decide_eq_true (by omega)
    go_enter Try.func5, Try.ntmps5
    go_wp2_with fail
    refine HB.out.mono ?_
    rintro e w' ⟨rfl, rfl⟩
    cases hbb : decide (l1 + l2 + l3 + l4 + l5 ≤ 1048576)
    all_goals
      go_wp2
      go_ret
      exact ⟨rfl, Below.refl _ _⟩
  · clear hF
    have d1 : decide ((65536 : Int) < (l1 : Int)) = false := decide_eq_false (by omega)
    have d2 : decide ((65536 : Int) < (l2 : Int)) = false := decide_eq_false (by omega)
    have d3 : decide ((65536 : Int) < (l3 : Int)) = false := decide_eq_false (by omega)
    have d4 : decide ((65536 : Int) < (l4 : Int)) = true := decide_eq_true (by omega)
    go_enter Try.func5, Try.ntmps5
    go_wp2_with fail
    refine HB.out.mono ?_
    rintro e w' ⟨rfl, rfl⟩
    cases hbb : decide (l1 + l2 + l3 + l4 + l5 ≤ 1048576)
    all_goals
      go_wp2
      go_ret
      exact ⟨rfl, Below.refl _ _⟩
  · clear hF
    have d1 : decide ((65536 : Int) < (l1 : Int)) = false := decide_eq_false (by omega)
    have d2 : decide ((65536 : Int) < (l2 : Int)) = false := decide_eq_false (by omega)
    have d3 : decide ((65536 : Int) < (l3 : Int)) = false := decide_eq_false (by omega)
    have d4 : decide ((65536 : Int) < (l4 : Int)) = false := decide_eq_false (by omega)
    have d5 : decide ((65536 : Int) < (l5 : Int)) = true := decide_eq_true (by omega)
    go_enter Try.func5, Try.ntmps5
    go_wp2_with fail
    refine HB.out.mono ?_
    rintro e w' ⟨rfl, rfl⟩
    cases hbb : decide (l1 + l2 + l3 + l4 + l5 ≤ 1048576)
    all_goals
      go_wp2
      go_ret
      exact ⟨rfl, Below.refl _ _⟩

set_option maxRecDepth 100000 in
theorem lifted (os : Os) (started : os.Started) (H : Type) (enc : TypeId × Value → H) :
    ReturnsInHanded {} Try.checked os 5 .any (Rows.fnRealTimePathsLinkExactlyEarlierFinishToLaterStartSpec.pre6 enc Try.prog Try.f5 Rows.fnRealTimePathsLinkExactlyEarlierFinishToLaterStartRow.domain false) (Rows.fnRealTimePathsLinkExactlyEarlierFinishToLaterStartSpec.post enc Try.prog Try.f5 false true false false) := by
  refine returnsInHanded_of_change (C := Try.checked) own started (by kernel_rfl) Try.func5
    (ChangeSpec.witness6 (enc := enc) (C := Try.checked) false ⟨#[], #[.slice none 0 0, .slice none 0 0, .slice none 0 0, .slice none 0 0, .slice none 0 0], []⟩ 8 (by kernel_rfl) (by kernel_rfl) (by kernel_rfl) (by kernel_rfl)) ?_
  intro W base args ds gs before hval0 hW hcnd _
  have hval : ∀ (j : Nat) t v, Try.f5.params[j]? = some t → args[j]? = some v → Value.okWide Try.prog W .any base t v := hval0
  have hW' := hW
  obtain ⟨p, q, hA0, hV, rfl, hfz, hnd⟩ := hW
  have hA : DataW.TrodAll enc Try.prog W 0 (fun _ => true) true Try.f5.params.toList args.toList ds p := hA0
  rw [Try.params5] at hA hval
  obtain ⟨v0, vs0, d0, ds0, p0, q0, hargs, rfl, rfl, h0, r0⟩ := trodAll_cons hA
  obtain ⟨v1, vs1, d1, ds1, p1, q1, rfl, rfl, rfl, h1, r1⟩ := trodAll_cons r0
  obtain ⟨v2, vs2, d2, ds2, p2, q2, rfl, rfl, rfl, h2, r2⟩ := trodAll_cons r1
  obtain ⟨v3, vs3, d3, ds3, p3, q3, rfl, rfl, rfl, h3, r3⟩ := trodAll_cons r2
  obtain ⟨v4, vs4, d4, ds4, p4, q4, rfl, rfl, rfl, h4, r4⟩ := trodAll_cons r3
  obtain ⟨rfl, rfl, rfl⟩ := trodAll_nil r4
  obtain rfl : args = #[v0, v1, v2, v3, v4] := by cases args; simp_all
  obtain ⟨rfl, rfl⟩ := trodVars_none hV
  obtain ⟨a0, len0, cap0, rfl⟩ := okWide_slice Try.underlying25 (hval 0 25 v0 rfl rfl)
  obtain ⟨a1, len1, cap1, rfl⟩ := okWide_slice Try.underlying25 (hval 1 25 v1 rfl rfl)
  obtain ⟨a2, len2, cap2, rfl⟩ := okWide_slice Try.underlying23 (hval 2 23 v2 rfl rfl)
  obtain ⟨a3, len3, cap3, rfl⟩ := okWide_slice Try.underlying47 (hval 3 47 v3 rfl rfl)
  obtain ⟨a4, len4, cap4, rfl⟩ := okWide_slice Try.underlying47 (hval 4 47 v4 rfl rfl)
  have k0 := h0
  have k1 := h1
  have k2 := h2
  have k3 := h3
  have k4 := h4
  have lt0 : ∀ x ∈ p0, x.block < W.heap.size := by obtain ⟨m, hm⟩ := k0; exact DataW.trod_lt m _ _ _ hm
  have lt1 : ∀ x ∈ p1, x.block < W.heap.size := by obtain ⟨m, hm⟩ := k1; exact DataW.trod_lt m _ _ _ hm
  have lt2 : ∀ x ∈ p2, x.block < W.heap.size := by obtain ⟨m, hm⟩ := k2; exact DataW.trod_lt m _ _ _ hm
  have lt3 : ∀ x ∈ p3, x.block < W.heap.size := by obtain ⟨m, hm⟩ := k3; exact DataW.trod_lt m _ _ _ hm
  have lt4 : ∀ x ∈ p4, x.block < W.heap.size := by obtain ⟨m, hm⟩ := k4; exact DataW.trod_lt m _ _ _ hm
  obtain ⟨u0, hu0⟩ := h0
  obtain ⟨u1, hu1⟩ := h1
  obtain ⟨u2, hu2⟩ := h2
  obtain ⟨u3, hu3⟩ := h3
  obtain ⟨u4, hu4⟩ := h4
  obtain ⟨n0, m0, z0, wz0, rd0⟩ := rd_ints Try.underlying25 Try.underlying2 (by kernel_rfl) (by simpa [Value.cells] using hu0)
  obtain ⟨n1, m1, z1, wz1, rd1⟩ := rd_ints Try.underlying25 Try.underlying2 (by kernel_rfl) (by simpa [Value.cells] using hu1)
  obtain ⟨n2, m2, z2, rd2⟩ := rd_bools Try.underlying23 Try.underlying4 (by kernel_rfl) (by simpa [Value.cells] using hu2)
  obtain ⟨n3, m3, z3, wz3, rd3⟩ := rd_ints Try.underlying47 Try.underlying76 (by kernel_rfl) (by simpa [Value.cells] using hu3)
  obtain ⟨n4, m4, z4, wz4, rd4⟩ := rd_ints Try.underlying47 Try.underlying76 (by kernel_rfl) (by simpa [Value.cells] using hu4)
  have hz3 : ∀ j, (((z3 j).toNat : Nat) : Int) = z3 j ∧ (z3 j).toNat ≤ 65535 := fun j => by
    have := bounds_u16 (wz3 j)
    omega
  have hz4 : ∀ j, (((z4 j).toNat : Nat) : Int) = z4 j ∧ (z4 j).toNat ≤ 65535 := fun j => by
    have := bounds_u16 (wz4 j)
    omega
  have rd3' : Rd W a3 len3 (fun j => .int .u16 (((z3 j).toNat : Nat) : Int)) := fun j hj => by
    obtain ⟨b, o, e1, e2⟩ := rd3 j hj
    exact ⟨b, o, e1, by rw [e2]; show some (Value.int .u16 (z3 j)) = some (.int .u16 (((z3 j).toNat : Nat) : Int)); rw [(hz3 j).1]⟩
  have rd4' : Rd W a4 len4 (fun j => .int .u16 (((z4 j).toNat : Nat) : Int)) := fun j hj => by
    obtain ⟨b, o, e1, e2⟩ := rd4 j hj
    exact ⟨b, o, e1, by rw [e2]; show some (Value.int .u16 (z4 j)) = some (.int .u16 (((z4 j).toNat : Nat) : Int)); rw [(hz4 j).1]⟩
  clear hA0 hval0
  refine (walk a0 a1 a2 a3 a4 len0 len1 len2 len3 len4 cap0 cap1 cap2 cap3 cap4 z0 z1 z2 (fun j => (z3 j).toNat) (fun j => (z4 j).toNat) W m0 m1 m2 m3 m4 ⟨rd0, rd1, rd2, rd3', rd4', n0, n1, n2, n3, n4, fun j => (hz3 j).2, fun j => (hz4 j).2⟩).mono fun e W' ⟨he, bel⟩ => ?_
  subst he
  exact ⟨_, rfl, _, _, _, [], _, [], hW', trodAll_mk1 (shut_bool Try.underlying4 _), (trodAll_cons_mk (Below.trod laidOut (by kernel_rfl) (of_decide_eq_true (by kernel_rfl)) k0 bel lt0) (trodAll_cons_mk (Below.trod laidOut (by kernel_rfl) (of_decide_eq_true (by kernel_rfl)) k1 bel lt1) (trodAll_cons_mk (Below.trod laidOut (by kernel_rfl) (of_decide_eq_true (by kernel_rfl)) k2 bel lt2) (trodAll_cons_mk (Below.trod laidOut (by kernel_rfl) (of_decide_eq_true (by kernel_rfl)) k3 bel lt3) (trodAll_cons_mk (Below.trod laidOut (by kernel_rfl) (of_decide_eq_true (by kernel_rfl)) k4 bel lt4) trodAll_mk0))))), rfl, bel.frame _, fun h => by cases h⟩

theorem over : Rows.fnRealTimePathsLinkExactlyEarlierFinishToLaterStartRow.holds Try.pinned (OpenSpec.ofChange Rows.fnRealTimePathsLinkExactlyEarlierFinishToLaterStartSpec) :=
  OpenClaim.holds_of_wide 5 Try.f5 rfl rfl rfl rfl rfl rfl rfl ⟨rfl, rfl, rfl, rfl, rfl⟩ rfl rfl rfl rfl rfl (by kernel_rfl) Try.func5 (by kernel_rfl)
    (of_decide_eq_true (by kernel_rfl)) (by unfold Func.isWrapper; first | (rw [if_pos (by decide +kernel)]; kernel_rfl) | (rw [if_neg (by decide +kernel)]; exact ⟨rfl, rfl⟩))
    (fun os started H enc _ => lifted os started H enc)

/-- THE STATEMENT -/
theorem proved : Rows.FnRealTimePathsLinkExactlyEarlierFinishToLaterStartSaid := over
#print axioms proved
end Go.Proofs.Qxb6600569a.fnRealTimePathsLinkExactlyEarlierFinishToLaterStart
