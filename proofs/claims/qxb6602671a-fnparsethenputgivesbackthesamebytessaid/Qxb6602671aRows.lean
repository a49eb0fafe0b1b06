/-
  No cell of these rows narrows 'for every input' (looked for: loops, veiled, ifaces, maps, wideKeys, modest, calm, conditions, laid).
  DERIVED. THE GIVEN ROWS OF THIS SEAT. 3 by the template 'for every input the law returns true; each argument reads behind the call as it read before'; 0 by the template 'total and deterministic' (their statements: Qxb6602671aTotals.lean).
  GIVEN WITH THE SEED: the statements are not yours to turn. If you find one false, say at which input.
  Laid BY PROGRAM, IN A SANDBOX (cutbox-rows.mjs): the forced cells as the released guide's own fill.sh prints them over the translation 0596de44681f7d3f… (all of the seat's roots in one cut). By AI agents, Wed Nov 11 2026. No macro, syntax, notation, axiom, sorry.
-/
import Derived.Test.Qxb6602671aChecked
import GoSem.Claim
import GoSem.ClaimJoined
import GoSem.ClaimMapViews
import Derived.JoinedTies
import Derived.KernelRfl
namespace Go.Proofs.Qxb6602671a
/- THE CELL 'sum', in the pinned program and in every row, IS THE sha256 OF THE DUMP (.gsa) THAT Qxb6602671aProg.lean LOADS. Nothing in Lean hashes anything: it is a label: what it is worth is what the hold of that sum in a sandbox is worth. -/
noncomputable def Try.pinned : Pinned := { name := "qxb6602671a", sum := "0596de44681f7d3ff0e7b9c87c02ee6a7b850954e7665bf389fef670dec586df", checked := Try.checked }
namespace Rows
def none {H : Type} : Left H := { results := [], args := [] }

/-- 'zzlaws_root_b1.FnParseThenPutGivesBackTheSameBytes': WHATEVER THE INPUT: true; the input reads as it did. -/
def fnParseThenPutGivesBackTheSameBytesSpec : ChangeSpec := { name := "fnParseThenPutGivesBackTheSameBytes", fn := fun _ => fun
  | [d] => { results := [.lit (.bool true)], args := [d] }
  | _ => none }
def fnParseThenPutGivesBackTheSameBytesRow : OpenClaim := { program := "qxb6602671a", sum := "0596de44681f7d3ff0e7b9c87c02ee6a7b850954e7665bf389fef670dec586df", func := "example.com/interleave/interleave/zzlaws_root_b1.FnParseThenPutGivesBackTheSameBytes", spec := "fnParseThenPutGivesBackTheSameBytes", apart := false }
def FnParseThenPutGivesBackTheSameBytesSaid : Prop := fnParseThenPutGivesBackTheSameBytesRow.holds Try.pinned (OpenSpec.ofChange fnParseThenPutGivesBackTheSameBytesSpec)

/-- ITS FALSE NEIGHBOUR: 'it returns false'. Refute it at one input. -/
def fnParseThenPutGivesBackTheSameBytesWrong : ChangeSpec := { name := "fnParseThenPutGivesBackTheSameBytes", fn := fun _ => fun
  | [d] => { results := [.lit (.bool false)], args := [d] }
  | _ => none }
def FnParseThenPutGivesBackTheSameBytesWrongFalsely : Prop := fnParseThenPutGivesBackTheSameBytesRow.holds Try.pinned (OpenSpec.ofChange fnParseThenPutGivesBackTheSameBytesWrong)

/-- 'zzlaws_root_b1.FnPutThenParseRoundTrips': WHATEVER THE INPUT: true; the input reads as it did. -/
def fnPutThenParseRoundTripsSpec : ChangeSpec := { name := "fnPutThenParseRoundTrips", fn := fun _ => fun
  | [d1, d2, d3] => { results := [.lit (.bool true)], args := [d1, d2, d3] }
  | _ => none }
def fnPutThenParseRoundTripsRow : OpenClaim := { program := "qxb6602671a", sum := "0596de44681f7d3ff0e7b9c87c02ee6a7b850954e7665bf389fef670dec586df", func := "example.com/interleave/interleave/zzlaws_root_b1.FnPutThenParseRoundTrips", spec := "fnPutThenParseRoundTrips", apart := false }
def FnPutThenParseRoundTripsSaid : Prop := fnPutThenParseRoundTripsRow.holds Try.pinned (OpenSpec.ofChange fnPutThenParseRoundTripsSpec)

/-- ITS FALSE NEIGHBOUR: 'it returns false'. Refute it at one input. -/
def fnPutThenParseRoundTripsWrong : ChangeSpec := { name := "fnPutThenParseRoundTrips", fn := fun _ => fun
  | [d1, d2, d3] => { results := [.lit (.bool false)], args := [d1, d2, d3] }
  | _ => none }
def FnPutThenParseRoundTripsWrongFalsely : Prop := fnPutThenParseRoundTripsRow.holds Try.pinned (OpenSpec.ofChange fnPutThenParseRoundTripsWrong)

/-- 'zzlaws_root_b1.FnTakeType3RepeatsLatestDelta': WHATEVER THE INPUT: true; the input reads as it did. -/
def fnTakeType3RepeatsLatestDeltaSpec : ChangeSpec := { name := "fnTakeType3RepeatsLatestDelta", fn := fun _ => fun
  | [d1, d2, d3] => { results := [.lit (.bool true)], args := [d1, d2, d3] }
  | _ => none }
def fnTakeType3RepeatsLatestDeltaRow : OpenClaim := { program := "qxb6602671a", sum := "0596de44681f7d3ff0e7b9c87c02ee6a7b850954e7665bf389fef670dec586df", func := "example.com/interleave/interleave/zzlaws_root_b1.FnTakeType3RepeatsLatestDelta", spec := "fnTakeType3RepeatsLatestDelta", apart := false }
def FnTakeType3RepeatsLatestDeltaSaid : Prop := fnTakeType3RepeatsLatestDeltaRow.holds Try.pinned (OpenSpec.ofChange fnTakeType3RepeatsLatestDeltaSpec)

/-- ITS FALSE NEIGHBOUR: 'it returns false'. Refute it at one input. -/
def fnTakeType3RepeatsLatestDeltaWrong : ChangeSpec := { name := "fnTakeType3RepeatsLatestDelta", fn := fun _ => fun
  | [d1, d2, d3] => { results := [.lit (.bool false)], args := [d1, d2, d3] }
  | _ => none }
def FnTakeType3RepeatsLatestDeltaWrongFalsely : Prop := fnTakeType3RepeatsLatestDeltaRow.holds Try.pinned (OpenSpec.ofChange fnTakeType3RepeatsLatestDeltaWrong)

end Rows
end Go.Proofs.Qxb6602671a
