/-
  No cell of these rows narrows 'for every input' (looked for: loops, veiled, ifaces, maps, wideKeys, modest, calm, conditions, laid).
  DERIVED. THE GIVEN ROWS OF THIS SEAT. 6 by the template 'for every input the law returns true; each argument reads behind the call as it read before'; 0 by the template 'total and deterministic' (their statements: Qxb6600569aTotals.lean).
  GIVEN WITH THE SEED: the statements are not yours to turn. If you find one false, say at which input.
  Laid BY PROGRAM, IN A SANDBOX (cutbox-rows.mjs): the forced cells as the released guide's own fill.sh prints them over the translation ae8612a1e8d2c85b… (all of the seat's roots in one cut). By AI agents, Wed Nov 11 2026. No macro, syntax, notation, axiom, sorry.
-/
import Derived.Test.Qxb6600569aChecked
import GoSem.Claim
import GoSem.ClaimJoined
import GoSem.ClaimMapViews
import Derived.JoinedTies
import Derived.KernelRfl
namespace Go.Proofs.Qxb6600569a
/- THE CELL 'sum', in the pinned program and in every row, IS THE sha256 OF THE DUMP (.gsa) THAT Qxb6600569aProg.lean LOADS. Nothing in Lean hashes anything: it is a label: what it is worth is what the hold of that sum in a sandbox is worth. -/
noncomputable def Try.pinned : Pinned := { name := "qxb6600569a", sum := "ae8612a1e8d2c85b7103b3f53ac2eaf351afc40901b1ff1cb7909a1942677de9", checked := Try.checked }
namespace Rows
def none {H : Type} : Left H := { results := [], args := [] }

/-- 'zzlaws_root_b1.FnWritersMapsEachVersionToItsFirstWrite': WHATEVER THE INPUT: true; the input reads as it did. -/
def fnWritersMapsEachVersionToItsFirstWriteSpec : ChangeSpec := { name := "fnWritersMapsEachVersionToItsFirstWrite", fn := fun _ => fun
  | [d1, d2, d3, d4] => { results := [.lit (.bool true)], args := [d1, d2, d3, d4] }
  | _ => none }
def fnWritersMapsEachVersionToItsFirstWriteRow : OpenClaim := { program := "qxb6600569a", sum := "ae8612a1e8d2c85b7103b3f53ac2eaf351afc40901b1ff1cb7909a1942677de9", func := "example.com/verisolate/verisolate/zzlaws_root_b1.FnWritersMapsEachVersionToItsFirstWrite", spec := "fnWritersMapsEachVersionToItsFirstWrite", plainKeys := false, apart := false }
def FnWritersMapsEachVersionToItsFirstWriteSaid : Prop := fnWritersMapsEachVersionToItsFirstWriteRow.holds Try.pinned (OpenSpec.ofChange fnWritersMapsEachVersionToItsFirstWriteSpec)

/-- ITS FALSE NEIGHBOUR: 'it returns false'. Refute it at one input. -/
def fnWritersMapsEachVersionToItsFirstWriteWrong : ChangeSpec := { name := "fnWritersMapsEachVersionToItsFirstWrite", fn := fun _ => fun
  | [d1, d2, d3, d4] => { results := [.lit (.bool false)], args := [d1, d2, d3, d4] }
  | _ => none }
def FnWritersMapsEachVersionToItsFirstWriteWrongFalsely : Prop := fnWritersMapsEachVersionToItsFirstWriteRow.holds Try.pinned (OpenSpec.ofChange fnWritersMapsEachVersionToItsFirstWriteWrong)

/-- 'zzlaws_root_b1.FnWritersOfAPrefixAreKeptByTheWhole': WHATEVER THE INPUT: true; the input reads as it did. -/
def fnWritersOfAPrefixAreKeptByTheWholeSpec : ChangeSpec := { name := "fnWritersOfAPrefixAreKeptByTheWhole", fn := fun _ => fun
  | [d1, d2, d3, d4, d5] => { results := [.lit (.bool true)], args := [d1, d2, d3, d4, d5] }
  | _ => none }
def fnWritersOfAPrefixAreKeptByTheWholeRow : OpenClaim := { program := "qxb6600569a", sum := "ae8612a1e8d2c85b7103b3f53ac2eaf351afc40901b1ff1cb7909a1942677de9", func := "example.com/verisolate/verisolate/zzlaws_root_b1.FnWritersOfAPrefixAreKeptByTheWhole", spec := "fnWritersOfAPrefixAreKeptByTheWhole", plainKeys := false, apart := false }
def FnWritersOfAPrefixAreKeptByTheWholeSaid : Prop := fnWritersOfAPrefixAreKeptByTheWholeRow.holds Try.pinned (OpenSpec.ofChange fnWritersOfAPrefixAreKeptByTheWholeSpec)

/-- ITS FALSE NEIGHBOUR: 'it returns false'. Refute it at one input. -/
def fnWritersOfAPrefixAreKeptByTheWholeWrong : ChangeSpec := { name := "fnWritersOfAPrefixAreKeptByTheWhole", fn := fun _ => fun
  | [d1, d2, d3, d4, d5] => { results := [.lit (.bool false)], args := [d1, d2, d3, d4, d5] }
  | _ => none }
def FnWritersOfAPrefixAreKeptByTheWholeWrongFalsely : Prop := fnWritersOfAPrefixAreKeptByTheWholeRow.holds Try.pinned (OpenSpec.ofChange fnWritersOfAPrefixAreKeptByTheWholeWrong)

/-- 'zzlaws_root_b1.FnRealTimePathsLinkExactlyEarlierFinishToLaterStart': WHATEVER THE INPUT: true; the input reads as it did. -/
def fnRealTimePathsLinkExactlyEarlierFinishToLaterStartSpec : ChangeSpec := { name := "fnRealTimePathsLinkExactlyEarlierFinishToLaterStart", fn := fun _ => fun
  | [d1, d2, d3, d4, d5] => { results := [.lit (.bool true)], args := [d1, d2, d3, d4, d5] }
  | _ => none }
def fnRealTimePathsLinkExactlyEarlierFinishToLaterStartRow : OpenClaim := { program := "qxb6600569a", sum := "ae8612a1e8d2c85b7103b3f53ac2eaf351afc40901b1ff1cb7909a1942677de9", func := "example.com/verisolate/verisolate/zzlaws_root_b1.FnRealTimePathsLinkExactlyEarlierFinishToLaterStart", spec := "fnRealTimePathsLinkExactlyEarlierFinishToLaterStart", recurses := true, plainKeys := false, apart := false }
def FnRealTimePathsLinkExactlyEarlierFinishToLaterStartSaid : Prop := fnRealTimePathsLinkExactlyEarlierFinishToLaterStartRow.holds Try.pinned (OpenSpec.ofChange fnRealTimePathsLinkExactlyEarlierFinishToLaterStartSpec)

/-- ITS FALSE NEIGHBOUR: 'it returns false'. Refute it at one input. -/
def fnRealTimePathsLinkExactlyEarlierFinishToLaterStartWrong : ChangeSpec := { name := "fnRealTimePathsLinkExactlyEarlierFinishToLaterStart", fn := fun _ => fun
  | [d1, d2, d3, d4, d5] => { results := [.lit (.bool false)], args := [d1, d2, d3, d4, d5] }
  | _ => none }
def FnRealTimePathsLinkExactlyEarlierFinishToLaterStartWrongFalsely : Prop := fnRealTimePathsLinkExactlyEarlierFinishToLaterStartRow.holds Try.pinned (OpenSpec.ofChange fnRealTimePathsLinkExactlyEarlierFinishToLaterStartWrong)

/-- 'zzlaws_root_b1.FnRealTimeNodesAreOrderedAndLinear': WHATEVER THE INPUT: true; the input reads as it did. -/
def fnRealTimeNodesAreOrderedAndLinearSpec : ChangeSpec := { name := "fnRealTimeNodesAreOrderedAndLinear", fn := fun _ => fun
  | [d1, d2, d3] => { results := [.lit (.bool true)], args := [d1, d2, d3] }
  | _ => none }
def fnRealTimeNodesAreOrderedAndLinearRow : OpenClaim := { program := "qxb6600569a", sum := "ae8612a1e8d2c85b7103b3f53ac2eaf351afc40901b1ff1cb7909a1942677de9", func := "example.com/verisolate/verisolate/zzlaws_root_b1.FnRealTimeNodesAreOrderedAndLinear", spec := "fnRealTimeNodesAreOrderedAndLinear", recurses := true, plainKeys := false, apart := false }
def FnRealTimeNodesAreOrderedAndLinearSaid : Prop := fnRealTimeNodesAreOrderedAndLinearRow.holds Try.pinned (OpenSpec.ofChange fnRealTimeNodesAreOrderedAndLinearSpec)

/-- ITS FALSE NEIGHBOUR: 'it returns false'. Refute it at one input. -/
def fnRealTimeNodesAreOrderedAndLinearWrong : ChangeSpec := { name := "fnRealTimeNodesAreOrderedAndLinear", fn := fun _ => fun
  | [d1, d2, d3] => { results := [.lit (.bool false)], args := [d1, d2, d3] }
  | _ => none }
def FnRealTimeNodesAreOrderedAndLinearWrongFalsely : Prop := fnRealTimeNodesAreOrderedAndLinearRow.holds Try.pinned (OpenSpec.ofChange fnRealTimeNodesAreOrderedAndLinearWrong)

/-- 'zzlaws_root_b1.FnComponentsAreTheStronglyConnectedClasses': WHATEVER THE INPUT: true; the input reads as it did. -/
def fnComponentsAreTheStronglyConnectedClassesSpec : ChangeSpec := { name := "fnComponentsAreTheStronglyConnectedClasses", fn := fun _ => fun
  | [d1, d2, d3] => { results := [.lit (.bool true)], args := [d1, d2, d3] }
  | _ => none }
def fnComponentsAreTheStronglyConnectedClassesRow : OpenClaim := { program := "qxb6600569a", sum := "ae8612a1e8d2c85b7103b3f53ac2eaf351afc40901b1ff1cb7909a1942677de9", func := "example.com/verisolate/verisolate/zzlaws_root_b1.FnComponentsAreTheStronglyConnectedClasses", spec := "fnComponentsAreTheStronglyConnectedClasses", unfollowed := true, recurses := true, plainKeys := false, apart := false }
def FnComponentsAreTheStronglyConnectedClassesSaid : Prop := fnComponentsAreTheStronglyConnectedClassesRow.holds Try.pinned (OpenSpec.ofChange fnComponentsAreTheStronglyConnectedClassesSpec)

/-- ITS FALSE NEIGHBOUR: 'it returns false'. Refute it at one input. -/
def fnComponentsAreTheStronglyConnectedClassesWrong : ChangeSpec := { name := "fnComponentsAreTheStronglyConnectedClasses", fn := fun _ => fun
  | [d1, d2, d3] => { results := [.lit (.bool false)], args := [d1, d2, d3] }
  | _ => none }
def FnComponentsAreTheStronglyConnectedClassesWrongFalsely : Prop := fnComponentsAreTheStronglyConnectedClassesRow.holds Try.pinned (OpenSpec.ofChange fnComponentsAreTheStronglyConnectedClassesWrong)

/-- 'zzlaws_root_b1.FnComponentsOfTheReversedGraphAgree': WHATEVER THE INPUT: true; the input reads as it did. -/
def fnComponentsOfTheReversedGraphAgreeSpec : ChangeSpec := { name := "fnComponentsOfTheReversedGraphAgree", fn := fun _ => fun
  | [d1, d2, d3] => { results := [.lit (.bool true)], args := [d1, d2, d3] }
  | _ => none }
def fnComponentsOfTheReversedGraphAgreeRow : OpenClaim := { program := "qxb6600569a", sum := "ae8612a1e8d2c85b7103b3f53ac2eaf351afc40901b1ff1cb7909a1942677de9", func := "example.com/verisolate/verisolate/zzlaws_root_b1.FnComponentsOfTheReversedGraphAgree", spec := "fnComponentsOfTheReversedGraphAgree", unfollowed := true, recurses := true, plainKeys := false, apart := false }
def FnComponentsOfTheReversedGraphAgreeSaid : Prop := fnComponentsOfTheReversedGraphAgreeRow.holds Try.pinned (OpenSpec.ofChange fnComponentsOfTheReversedGraphAgreeSpec)

/-- ITS FALSE NEIGHBOUR: 'it returns false'. Refute it at one input. -/
def fnComponentsOfTheReversedGraphAgreeWrong : ChangeSpec := { name := "fnComponentsOfTheReversedGraphAgree", fn := fun _ => fun
  | [d1, d2, d3] => { results := [.lit (.bool false)], args := [d1, d2, d3] }
  | _ => none }
def FnComponentsOfTheReversedGraphAgreeWrongFalsely : Prop := fnComponentsOfTheReversedGraphAgreeRow.holds Try.pinned (OpenSpec.ofChange fnComponentsOfTheReversedGraphAgreeWrong)

end Rows
end Go.Proofs.Qxb6600569a
