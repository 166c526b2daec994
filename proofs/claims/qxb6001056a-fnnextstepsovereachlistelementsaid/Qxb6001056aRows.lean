/-
  No cell of these rows narrows 'for every input' (looked for: loops, veiled, ifaces, maps, wideKeys, modest, calm, conditions, laid).
  DERIVED. THE GIVEN ROWS OF THIS SEAT. 4 by the template 'for every input the law returns true; each argument reads behind the call as it read before'; 0 by the template 'total and deterministic' (their statements: Qxb6001056aTotals.lean).
  GIVEN WITH THE SEED: the statements are not yours to turn. If you find one false, say at which input.
  Laid BY PROGRAM, IN A SANDBOX (cutbox-rows.mjs): the forced cells as the released guide's own fill.sh prints them over the translation 4e4251d55e124495… (all of the seat's roots in one cut). By AI agents, Wed Nov 11 2026. No macro, syntax, notation, axiom, sorry.
-/
import Derived.Test.Qxb6001056aChecked
import GoSem.Claim
import GoSem.ClaimJoined
import GoSem.ClaimMapViews
import Derived.JoinedTies
import Derived.KernelRfl
namespace Go.Proofs.Qxb6001056a
/- THE CELL 'sum', in the pinned program and in every row, IS THE sha256 OF THE DUMP (.gsa) THAT Qxb6001056aProg.lean LOADS. Nothing in Lean hashes anything: it is a label: what it is worth is what the hold of that sum in a sandbox is worth. -/
noncomputable def Try.pinned : Pinned := { name := "qxb6001056a", sum := "4e4251d55e124495a272db34bfca4d8f95c6fe4cffe88a16f879fbf57ad6c5db", checked := Try.checked }
namespace Rows
def none {H : Type} : Left H := { results := [], args := [] }

/-- 'zzlaws_bencode_b1.FnKindAgreesWithParse': WHATEVER THE INPUT: true; the input reads as it did. -/
def fnKindAgreesWithParseSpec : ChangeSpec := { name := "fnKindAgreesWithParse", fn := fun _ => fun
  | [d1, d2] => { results := [.lit (.bool true)], args := [d1, d2] }
  | _ => none }
def fnKindAgreesWithParseRow : OpenClaim := { program := "qxb6001056a", sum := "4e4251d55e124495a272db34bfca4d8f95c6fe4cffe88a16f879fbf57ad6c5db", func := "example.com/swarmwright/swarmwright/zzlaws_bencode_b1.FnKindAgreesWithParse", spec := "fnKindAgreesWithParse", recurses := true, apart := false }
def FnKindAgreesWithParseSaid : Prop := fnKindAgreesWithParseRow.holds Try.pinned (OpenSpec.ofChange fnKindAgreesWithParseSpec)

/-- ITS FALSE NEIGHBOUR: 'it returns false'. Refute it at one input. -/
def fnKindAgreesWithParseWrong : ChangeSpec := { name := "fnKindAgreesWithParse", fn := fun _ => fun
  | [d1, d2] => { results := [.lit (.bool false)], args := [d1, d2] }
  | _ => none }
def FnKindAgreesWithParseWrongFalsely : Prop := fnKindAgreesWithParseRow.holds Try.pinned (OpenSpec.ofChange fnKindAgreesWithParseWrong)

/-- 'zzlaws_bencode_b1.FnNextEndsWhereValueEndsWhateverFollows': WHATEVER THE INPUT: true; the input reads as it did. -/
def fnNextEndsWhereValueEndsWhateverFollowsSpec : ChangeSpec := { name := "fnNextEndsWhereValueEndsWhateverFollows", fn := fun _ => fun
  | [d1, d2] => { results := [.lit (.bool true)], args := [d1, d2] }
  | _ => none }
def fnNextEndsWhereValueEndsWhateverFollowsRow : OpenClaim := { program := "qxb6001056a", sum := "4e4251d55e124495a272db34bfca4d8f95c6fe4cffe88a16f879fbf57ad6c5db", func := "example.com/swarmwright/swarmwright/zzlaws_bencode_b1.FnNextEndsWhereValueEndsWhateverFollows", spec := "fnNextEndsWhereValueEndsWhateverFollows", inPlace := ["internal/bytealg.IndexByte"], recurses := true, apart := false }
def FnNextEndsWhereValueEndsWhateverFollowsSaid : Prop := fnNextEndsWhereValueEndsWhateverFollowsRow.holds Try.pinned (OpenSpec.ofChange fnNextEndsWhereValueEndsWhateverFollowsSpec)

/-- ITS FALSE NEIGHBOUR: 'it returns false'. Refute it at one input. -/
def fnNextEndsWhereValueEndsWhateverFollowsWrong : ChangeSpec := { name := "fnNextEndsWhereValueEndsWhateverFollows", fn := fun _ => fun
  | [d1, d2] => { results := [.lit (.bool false)], args := [d1, d2] }
  | _ => none }
def FnNextEndsWhereValueEndsWhateverFollowsWrongFalsely : Prop := fnNextEndsWhereValueEndsWhateverFollowsRow.holds Try.pinned (OpenSpec.ofChange fnNextEndsWhereValueEndsWhateverFollowsWrong)

/-- 'zzlaws_bencode_b1.FnNextStepsOverEachListElement': WHATEVER THE INPUT: true; the input reads as it did. -/
def fnNextStepsOverEachListElementSpec : ChangeSpec := { name := "fnNextStepsOverEachListElement", fn := fun _ => fun
  | [d] => { results := [.lit (.bool true)], args := [d] }
  | _ => none }
def fnNextStepsOverEachListElementRow : OpenClaim := { program := "qxb6001056a", sum := "4e4251d55e124495a272db34bfca4d8f95c6fe4cffe88a16f879fbf57ad6c5db", func := "example.com/swarmwright/swarmwright/zzlaws_bencode_b1.FnNextStepsOverEachListElement", spec := "fnNextStepsOverEachListElement", inPlace := ["internal/bytealg.IndexByte"], recurses := true, apart := false }
def FnNextStepsOverEachListElementSaid : Prop := fnNextStepsOverEachListElementRow.holds Try.pinned (OpenSpec.ofChange fnNextStepsOverEachListElementSpec)

/-- ITS FALSE NEIGHBOUR: 'it returns false'. Refute it at one input. -/
def fnNextStepsOverEachListElementWrong : ChangeSpec := { name := "fnNextStepsOverEachListElement", fn := fun _ => fun
  | [d] => { results := [.lit (.bool false)], args := [d] }
  | _ => none }
def FnNextStepsOverEachListElementWrongFalsely : Prop := fnNextStepsOverEachListElementRow.holds Try.pinned (OpenSpec.ofChange fnNextStepsOverEachListElementWrong)

/-- 'zzlaws_bencode_b1.FnLookupFindsFirstEntryUnderKey': WHATEVER THE INPUT: true; the input reads as it did. -/
def fnLookupFindsFirstEntryUnderKeySpec : ChangeSpec := { name := "fnLookupFindsFirstEntryUnderKey", fn := fun _ => fun
  | [d1, d2, d3] => { results := [.lit (.bool true)], args := [d1, d2, d3] }
  | _ => none }
def fnLookupFindsFirstEntryUnderKeyRow : OpenClaim := { program := "qxb6001056a", sum := "4e4251d55e124495a272db34bfca4d8f95c6fe4cffe88a16f879fbf57ad6c5db", func := "example.com/swarmwright/swarmwright/zzlaws_bencode_b1.FnLookupFindsFirstEntryUnderKey", spec := "fnLookupFindsFirstEntryUnderKey", inPlace := ["internal/bytealg.IndexByte"], recurses := true, apart := false }
def FnLookupFindsFirstEntryUnderKeySaid : Prop := fnLookupFindsFirstEntryUnderKeyRow.holds Try.pinned (OpenSpec.ofChange fnLookupFindsFirstEntryUnderKeySpec)

/-- ITS FALSE NEIGHBOUR: 'it returns false'. Refute it at one input. -/
def fnLookupFindsFirstEntryUnderKeyWrong : ChangeSpec := { name := "fnLookupFindsFirstEntryUnderKey", fn := fun _ => fun
  | [d1, d2, d3] => { results := [.lit (.bool false)], args := [d1, d2, d3] }
  | _ => none }
def FnLookupFindsFirstEntryUnderKeyWrongFalsely : Prop := fnLookupFindsFirstEntryUnderKeyRow.holds Try.pinned (OpenSpec.ofChange fnLookupFindsFirstEntryUnderKeyWrong)

end Rows
end Go.Proofs.Qxb6001056a
