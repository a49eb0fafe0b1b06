/-
  'Rows.FnWritersOfAPrefixAreKeptByTheWholeSaid' PROVED. The frame after the kit's shell for a law over slices, typed for slices of uint8, bool, string and int64, and an int.
-/
import Derived.Test.Qxb6600569aRows
import Derived.WalkKit
import Derived.ProofKit
import Derived.OpenShut
import Derived.ShutString
import Derived.ChangeOld
import Derived.Below
import Derived.Test.Qxb6600569aOpen
import Derived.Test.Qxb6600569aPfWalk
namespace Go.Proofs.Qxb6600569a.fnWritersOfAPrefixAreKeptByTheWhole
open Go.ChangeShapes Go.WideShapes Go.ChangeAt Go.RowKit
open Go.ChangeMaps (open_string shut_string)
set_option linter.unusedVariables false

theorem own : ownKnob Try.prog.godebug = none := by kernel_rfl
theorem laidOut : laidOutB Try.prog = true := by kernel_rfl

set_option maxHeartbeats 1000000 in
set_option maxRecDepth 100000 in
/-- THE WALK, for whatever lengths and whatever cut. -/
theorem walk (a0 a1 a2 a3 : Option Addr) (l0 l1 l2 l3 c0 c1 c2 c3 : Nat) (cut : Int) (c : Nat → Nat) (V1 : Nat → Bool) (K : Nat → ByteArray) (V : Nat → Int) (w : World) (m0 : l0 ≤ maxLen) (m1 : l1 ≤ maxLen) (m2 : l2 ≤ maxLen) (m3 : l3 ≤ maxLen)
    (hF : Four w a0 a1 a2 a3 l0 l1 l2 l3 c0 c1 c2 c3 c V1 K V) :
    Calls Try.prog 4 #[.slice a0 l0 c0, .slice a1 l1 c1, .slice a2 l2 c2, .slice a3 l3 c3, .int .i64 cut] w fun e w' => e = .returned (.bool true) ∧ Below w.heap.size w w' := by
  have hcase : (l0 ≤ 65536 ∧ l1 ≤ 65536 ∧ l2 ≤ 65536 ∧ l3 ≤ 65536) ∨ (65536 < l0) ∨ (l0 ≤ 65536 ∧ 65536 < l1) ∨ (l0 ≤ 65536 ∧ l1 ≤ 65536 ∧ 65536 < l2) ∨ (l0 ≤ 65536 ∧ l1 ≤ 65536 ∧ l2 ≤ 65536 ∧ 65536 < l3) := by omega
  have HB : Hid (Calls Try.prog 18 #[.slice a0 l0 c0, .slice a1 l1 c1, .slice a2 l2 c2, .slice a3 l3 c3, .int .i64 cut] w (SomeBool w)) := bytes_four18 a0 a1 a2 a3 l0 l1 l2 l3 c0 c1 c2 c3 cut K w m0 m1 m2 m3 hF.r2
  rcases hcase with ⟨h0, h1, h2, h3⟩ | h0 | ⟨h0, h1⟩ | ⟨h0, h1, h2⟩ | ⟨h0, h1, h2, h3⟩
  · by_cases hc : 0 ≤ cut ∧ cut ≤ (l0 : Int)
    · obtain ⟨cn, rfl⟩ := Int.eq_ofNat_of_zero_le hc.1
      refine (pf_main a0 a1 a2 a3 l0 l1 l2 l3 c0 c1 c2 c3 cn c V1 K V w h0 h1 h2 h3 (by omega) hF).mono ?_
      rintro e w' ⟨rfl, hbel⟩
      exact ⟨rfl, hbel⟩
    · have HT : Hid (Calls Try.prog 10 #[.slice a0 l0 c0, .slice a1 l1 c1, .slice a2 l2 c2, .slice a3 l3 c3] w (SomeInt w)) := txnBytes_any a0 a1 a2 a3 l0 l1 l2 l3 c0 c1 c2 c3 K w h0 h1 h2 h3 hF.r2
      clear hF
      have d0 : decide ((65536 : Int) < (l0 : Int)) = false := decide_eq_false (by omega)
      have d1 : decide ((65536 : Int) < (l1 : Int)) = false := decide_eq_false (by omega)
      have d2 : decide ((65536 : Int) < (l2 : Int)) = false := decide_eq_false (by omega)
      have d3 : decide ((65536 : Int) < (l3 : Int)) = false := decide_eq_false (by omega)
      go_enter Try.func4, Try.ntmps4
      go_wp2_with fail
      refine HB.out.mono ?_
      rintro e w' ⟨⟨bb, rfl⟩, rfl⟩
      cases bb
      · go_wp2
        go_ret
        exact ⟨rfl, Below.refl _ _⟩
      go_wp2_with fail
      refine HT.out.mono ?_
      rintro e w' ⟨⟨tb, rfl⟩, rfl⟩
      by_cases htb : 1048576 < tb
      · have dt : decide ((1048576 : Int) < tb) = true := decide_eq_true htb
        go_wp2
        go_ret
        exact ⟨rfl, Below.refl _ _⟩
      have dt : decide ((1048576 : Int) < tb) = false := decide_eq_false htb
      by_cases hneg : cut < 0
      · have j1 : decide (cut < 0) = true := decide_eq_true hneg
        go_wp2
        go_ret
        exact ⟨rfl, Below.refl _ _⟩
      · have j1 : decide (cut < 0) = false := decide_eq_false hneg
        have hgt : (l0 : Int) < cut := by omega
        have j2 : decide ((l0 : Int) < cut) = true := decide_eq_true hgt
        go_wp2
        go_ret
        exact ⟨rfl, Below.refl _ _⟩
  · clear hF
    have d0 : decide ((65536 : Int) < (l0 : Int)) = true := decide_eq_true (by omega)
    go_enter Try.func4, Try.ntmps4
    go_wp2_with fail
    refine HB.out.mono ?_
    rintro e w' ⟨⟨bb, rfl⟩, rfl⟩
    cases bb
    all_goals
      go_wp2
      go_ret
      exact ⟨rfl, Below.refl _ _⟩
  · clear hF
    have d0 : decide ((65536 : Int) < (l0 : Int)) = false := decide_eq_false (by omega)
    have d1 : decide ((65536 : Int) < (l1 : Int)) = true := decide_eq_true (by omega)
    go_enter Try.func4, Try.ntmps4
    go_wp2_with fail
    refine HB.out.mono ?_
    rintro e w' ⟨⟨bb, rfl⟩, rfl⟩
    cases bb
    all_goals
      go_wp2
      go_ret
      exact ⟨rfl, Below.refl _ _⟩
  · clear hF
    have d0 : decide ((65536 : Int) < (l0 : Int)) = false := decide_eq_false (by omega)
    have d1 : decide ((65536 : Int) < (l1 : Int)) = false := decide_eq_false (by omega)
    have d2 : decide ((65536 : Int) < (l2 : Int)) = true := decide_eq_true (by omega)
    go_enter Try.func4, Try.ntmps4
    go_wp2_with fail
    refine HB.out.mono ?_
    rintro e w' ⟨⟨bb, rfl⟩, rfl⟩
    cases bb
    all_goals
      go_wp2
      go_ret
      exact ⟨rfl, Below.refl _ _⟩
  · clear hF
    have d0 : decide ((65536 : Int) < (l0 : Int)) = false := decide_eq_false (by omega)
    have d1 : decide ((65536 : Int) < (l1 : Int)) = false := decide_eq_false (by omega)
    have d2 : decide ((65536 : Int) < (l2 : Int)) = false := decide_eq_false (by omega)
    have d3 : decide ((65536 : Int) < (l3 : Int)) = true := decide_eq_true (by omega)
    go_enter Try.func4, Try.ntmps4
    go_wp2_with fail
    refine HB.out.mono ?_
    rintro e w' ⟨⟨bb, rfl⟩, rfl⟩
    cases bb
    all_goals
      go_wp2
      go_ret
      exact ⟨rfl, Below.refl _ _⟩

set_option maxRecDepth 100000 in
theorem lifted (os : Os) (started : os.Started) (H : Type) (enc : TypeId × Value → H) :
    ReturnsInHanded {} Try.checked os 4 .any (Rows.fnWritersOfAPrefixAreKeptByTheWholeSpec.pre6 enc Try.prog Try.f4 Rows.fnWritersOfAPrefixAreKeptByTheWholeRow.domain false) (Rows.fnWritersOfAPrefixAreKeptByTheWholeSpec.post enc Try.prog Try.f4 false true false false) := by
  refine returnsInHanded_of_change (C := Try.checked) own started (by kernel_rfl) Try.func4
    (ChangeSpec.witness6 (enc := enc) (C := Try.checked) false ⟨#[], #[.slice none 0 0, .slice none 0 0, .slice none 0 0, .slice none 0 0, .int .i64 0], []⟩ 8 (by kernel_rfl) (by kernel_rfl) (by kernel_rfl) (by kernel_rfl)) ?_
  intro W base args ds gs before hval0 hW hcnd _
  have hval : ∀ (j : Nat) t v, Try.f4.params[j]? = some t → args[j]? = some v → Value.okWide Try.prog W .any base t v := hval0
  have hW' := hW
  obtain ⟨p, q, hA0, hV, rfl, hfz, hnd⟩ := hW
  have hA : DataW.TrodAll enc Try.prog W 0 (fun _ => true) true Try.f4.params.toList args.toList ds p := hA0
  rw [Try.params4] at hA hval
  obtain ⟨v0, vs0, d0, ds0, p0, q0, hargs, rfl, rfl, h0, r0⟩ := trodAll_cons hA
  obtain ⟨v1, vs1, d1, ds1, p1, q1, rfl, rfl, rfl, h1, r1⟩ := trodAll_cons r0
  obtain ⟨v2, vs2, d2, ds2, p2, q2, rfl, rfl, rfl, h2, r2⟩ := trodAll_cons r1
  obtain ⟨v3, vs3, d3, ds3, p3, q3, rfl, rfl, rfl, h3, r3⟩ := trodAll_cons r2
  obtain ⟨v4, vs4, d4, ds4, p4, q4, rfl, rfl, rfl, h4, r4⟩ := trodAll_cons r3
  obtain ⟨rfl, rfl, rfl⟩ := trodAll_nil r4
  obtain rfl : args = #[v0, v1, v2, v3, v4] := by cases args; simp_all
  obtain ⟨rfl, rfl⟩ := trodVars_none hV
  obtain ⟨a0, len0, cap0, rfl⟩ := okWide_slice Try.underlying22 (hval 0 22 v0 rfl rfl)
  obtain ⟨a1, len1, cap1, rfl⟩ := okWide_slice Try.underlying23 (hval 1 23 v1 rfl rfl)
  obtain ⟨a2, len2, cap2, rfl⟩ := okWide_slice Try.underlying24 (hval 2 24 v2 rfl rfl)
  obtain ⟨a3, len3, cap3, rfl⟩ := okWide_slice Try.underlying25 (hval 3 25 v3 rfl rfl)
  obtain ⟨cut, rfl, rfl, rfl, w4⟩ := open_int Try.underlying3 (hval 4 3 v4 rfl rfl) h4
  have k0 := h0
  have k1 := h1
  have k2 := h2
  have k3 := h3
  have lt0 : ∀ x ∈ p0, x.block < W.heap.size := by obtain ⟨m, hm⟩ := k0; exact DataW.trod_lt m _ _ _ hm
  have lt1 : ∀ x ∈ p1, x.block < W.heap.size := by obtain ⟨m, hm⟩ := k1; exact DataW.trod_lt m _ _ _ hm
  have lt2 : ∀ x ∈ p2, x.block < W.heap.size := by obtain ⟨m, hm⟩ := k2; exact DataW.trod_lt m _ _ _ hm
  have lt3 : ∀ x ∈ p3, x.block < W.heap.size := by obtain ⟨m, hm⟩ := k3; exact DataW.trod_lt m _ _ _ hm
  obtain ⟨u0, hu0⟩ := h0
  obtain ⟨u1, hu1⟩ := h1
  obtain ⟨u2, hu2⟩ := h2
  obtain ⟨u3, hu3⟩ := h3
  obtain ⟨n0, m0, z0, wz0, rd0⟩ := rd_ints Try.underlying22 Try.underlying5 (by kernel_rfl) (by simpa [Value.cells] using hu0)
  obtain ⟨n1, m1, z1, rd1⟩ := rd_bools Try.underlying23 Try.underlying4 (by kernel_rfl) (by simpa [Value.cells] using hu1)
  obtain ⟨n2, m2, z2, rd2⟩ := rd_strs Try.underlying24 Try.underlying9 (by kernel_rfl) (by simpa [Value.cells] using hu2)
  obtain ⟨n3, m3, z3, wz3, rd3⟩ := rd_ints Try.underlying25 Try.underlying2 (by kernel_rfl) (by simpa [Value.cells] using hu3)
  have hz0 : ∀ j, (((z0 j).toNat : Nat) : Int) = z0 j ∧ (z0 j).toNat ≤ 255 := fun j => by
    have := bounds_u8 (wz0 j)
    omega
  have rd0' : Rd W a0 len0 (fun j => .int .u8 (((z0 j).toNat : Nat) : Int)) := fun j hj => by
    obtain ⟨b, o, e1, e2⟩ := rd0 j hj
    exact ⟨b, o, e1, by rw [e2]; show some (Value.int .u8 (z0 j)) = some (.int .u8 (((z0 j).toNat : Nat) : Int)); rw [(hz0 j).1]⟩
  clear hA0 hval0
  refine (walk a0 a1 a2 a3 len0 len1 len2 len3 cap0 cap1 cap2 cap3 cut (fun j => (z0 j).toNat) z1 z2 z3 W m0 m1 m2 m3 ⟨rd0', rd1, rd2, rd3, n0, n1, n2, n3, fun j => (hz0 j).2⟩).mono fun e W' ⟨he, bel⟩ => ?_
  subst he
  exact ⟨_, rfl, _, _, _, [], _, [], hW', trodAll_mk1 (shut_bool Try.underlying4 _), (trodAll_cons_mk (Below.trod laidOut (by kernel_rfl) (of_decide_eq_true (by kernel_rfl)) k0 bel lt0) (trodAll_cons_mk (Below.trod laidOut (by kernel_rfl) (of_decide_eq_true (by kernel_rfl)) k1 bel lt1) (trodAll_cons_mk (Below.trod laidOut (by kernel_rfl) (of_decide_eq_true (by kernel_rfl)) k2 bel lt2) (trodAll_cons_mk (Below.trod laidOut (by kernel_rfl) (of_decide_eq_true (by kernel_rfl)) k3 bel lt3) (trodAll_cons_mk (shut_int Try.underlying3 w4) trodAll_mk0))))), rfl, bel.frame _, fun h => by cases h⟩

theorem over : Rows.fnWritersOfAPrefixAreKeptByTheWholeRow.holds Try.pinned (OpenSpec.ofChange Rows.fnWritersOfAPrefixAreKeptByTheWholeSpec) :=
  OpenClaim.holds_of_wide 4 Try.f4 rfl rfl rfl rfl rfl rfl rfl ⟨rfl, rfl, rfl, rfl, rfl⟩ rfl rfl rfl rfl rfl (by kernel_rfl) Try.func4 (by kernel_rfl)
    (of_decide_eq_true (by kernel_rfl)) (by unfold Func.isWrapper; first | (rw [if_pos (by decide +kernel)]; kernel_rfl) | (rw [if_neg (by decide +kernel)]; exact ⟨rfl, rfl⟩))
    (fun os started H enc _ => lifted os started H enc)

/-- THE STATEMENT -/
theorem proved : Rows.FnWritersOfAPrefixAreKeptByTheWholeSaid := over
#print axioms proved
end Go.Proofs.Qxb6600569a.fnWritersOfAPrefixAreKeptByTheWhole
