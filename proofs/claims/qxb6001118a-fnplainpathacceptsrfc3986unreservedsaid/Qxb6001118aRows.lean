/-
  No cell of these rows narrows 'for every input' (looked for: loops, veiled, ifaces, maps, wideKeys, modest, calm, conditions, laid).
  DERIVED. THE GIVEN ROWS OF THIS SEAT. 6 by the template 'for every input the law returns true; each argument reads behind the call as it read before'; 0 by the template 'total and deterministic' (their statements: Qxb6001118aTotals.lean).
  GIVEN WITH THE SEED: the statements are not yours to turn. If you find one false, say at which input.
  Laid BY PROGRAM, IN A SANDBOX (cutbox-rows.mjs): the forced cells as the released guide's own fill.sh prints them over the translation 79f6e20095d59ffa… (all of the seat's roots in one cut). By AI agents, Wed Nov 11 2026. No macro, syntax, notation, axiom, sorry.
-/
import Derived.Test.Qxb6001118aChecked
import GoSem.Claim
import GoSem.ClaimJoined
import GoSem.ClaimMapViews
import Derived.JoinedTies
import Derived.KernelRfl
namespace Go.Proofs.Qxb6001118a
/- THE CELL 'sum', in the pinned program and in every row, IS THE sha256 OF THE DUMP (.gsa) THAT Qxb6001118aProg.lean LOADS. Nothing in Lean hashes anything: it is a label: what it is worth is what the hold of that sum in a sandbox is worth. -/
noncomputable def Try.pinned : Pinned := { name := "qxb6001118a", sum := "79f6e20095d59ffaa57c84c9e29ba19aa0cc3f611e162fdd57ec56dbebda1729", checked := Try.checked }
namespace Rows
def none {H : Type} : Left H := { results := [], args := [] }

/-- 'zzlaws_internal_httpfront_b1.FnPlainPathSplitsAtAnyByte': WHATEVER THE INPUT: true; the input reads as it did. -/
def fnPlainPathSplitsAtAnyByteSpec : ChangeSpec := { name := "fnPlainPathSplitsAtAnyByte", fn := fun _ => fun
  | [d1, d2] => { results := [.lit (.bool true)], args := [d1, d2] }
  | _ => none }
def fnPlainPathSplitsAtAnyByteRow : OpenClaim := { program := "qxb6001118a", sum := "79f6e20095d59ffaa57c84c9e29ba19aa0cc3f611e162fdd57ec56dbebda1729", func := "example.com/tilewright/tilewright/zzlaws_internal_httpfront_b1.FnPlainPathSplitsAtAnyByte", spec := "fnPlainPathSplitsAtAnyByte", inPlace := ["internal/bytealg.IndexByteString"], apart := false }
def FnPlainPathSplitsAtAnyByteSaid : Prop := fnPlainPathSplitsAtAnyByteRow.holds Try.pinned (OpenSpec.ofChange fnPlainPathSplitsAtAnyByteSpec)

/-- ITS FALSE NEIGHBOUR: 'it returns false'. Refute it at one input. -/
def fnPlainPathSplitsAtAnyByteWrong : ChangeSpec := { name := "fnPlainPathSplitsAtAnyByte", fn := fun _ => fun
  | [d1, d2] => { results := [.lit (.bool false)], args := [d1, d2] }
  | _ => none }
def FnPlainPathSplitsAtAnyByteWrongFalsely : Prop := fnPlainPathSplitsAtAnyByteRow.holds Try.pinned (OpenSpec.ofChange fnPlainPathSplitsAtAnyByteWrong)

/-- 'zzlaws_internal_httpfront_b1.FnPlainPathRefusesReservedEscapesAndNonASCII': WHATEVER THE INPUT: true; the input reads as it did. -/
def fnPlainPathRefusesReservedEscapesAndNonASCIISpec : ChangeSpec := { name := "fnPlainPathRefusesReservedEscapesAndNonASCII", fn := fun _ => fun
  | [d1, d2, d3] => { results := [.lit (.bool true)], args := [d1, d2, d3] }
  | _ => none }
def fnPlainPathRefusesReservedEscapesAndNonASCIIRow : OpenClaim := { program := "qxb6001118a", sum := "79f6e20095d59ffaa57c84c9e29ba19aa0cc3f611e162fdd57ec56dbebda1729", func := "example.com/tilewright/tilewright/zzlaws_internal_httpfront_b1.FnPlainPathRefusesReservedEscapesAndNonASCII", spec := "fnPlainPathRefusesReservedEscapesAndNonASCII", inPlace := ["internal/bytealg.IndexByteString"], apart := false }
def FnPlainPathRefusesReservedEscapesAndNonASCIISaid : Prop := fnPlainPathRefusesReservedEscapesAndNonASCIIRow.holds Try.pinned (OpenSpec.ofChange fnPlainPathRefusesReservedEscapesAndNonASCIISpec)

/-- ITS FALSE NEIGHBOUR: 'it returns false'. Refute it at one input. -/
def fnPlainPathRefusesReservedEscapesAndNonASCIIWrong : ChangeSpec := { name := "fnPlainPathRefusesReservedEscapesAndNonASCII", fn := fun _ => fun
  | [d1, d2, d3] => { results := [.lit (.bool false)], args := [d1, d2, d3] }
  | _ => none }
def FnPlainPathRefusesReservedEscapesAndNonASCIIWrongFalsely : Prop := fnPlainPathRefusesReservedEscapesAndNonASCIIRow.holds Try.pinned (OpenSpec.ofChange fnPlainPathRefusesReservedEscapesAndNonASCIIWrong)

/-- 'zzlaws_internal_httpfront_b1.FnPlainPathAcceptsRFC3986Unreserved': WHATEVER THE INPUT: true; the input reads as it did. -/
def fnPlainPathAcceptsRFC3986UnreservedSpec : ChangeSpec := { name := "fnPlainPathAcceptsRFC3986Unreserved", fn := fun _ => fun
  | [d] => { results := [.lit (.bool true)], args := [d] }
  | _ => none }
def fnPlainPathAcceptsRFC3986UnreservedRow : OpenClaim := { program := "qxb6001118a", sum := "79f6e20095d59ffaa57c84c9e29ba19aa0cc3f611e162fdd57ec56dbebda1729", func := "example.com/tilewright/tilewright/zzlaws_internal_httpfront_b1.FnPlainPathAcceptsRFC3986Unreserved", spec := "fnPlainPathAcceptsRFC3986Unreserved", inPlace := ["internal/bytealg.IndexByteString"], apart := false }
def FnPlainPathAcceptsRFC3986UnreservedSaid : Prop := fnPlainPathAcceptsRFC3986UnreservedRow.holds Try.pinned (OpenSpec.ofChange fnPlainPathAcceptsRFC3986UnreservedSpec)

/-- ITS FALSE NEIGHBOUR: 'it returns false'. Refute it at one input. -/
def fnPlainPathAcceptsRFC3986UnreservedWrong : ChangeSpec := { name := "fnPlainPathAcceptsRFC3986Unreserved", fn := fun _ => fun
  | [d] => { results := [.lit (.bool false)], args := [d] }
  | _ => none }
def FnPlainPathAcceptsRFC3986UnreservedWrongFalsely : Prop := fnPlainPathAcceptsRFC3986UnreservedRow.holds Try.pinned (OpenSpec.ofChange fnPlainPathAcceptsRFC3986UnreservedWrong)

/-- 'zzlaws_internal_httpfront_b1.FnKeepIdempotent': WHATEVER THE INPUT: true; the input reads as it did. -/
def fnKeepIdempotentSpec : ChangeSpec := { name := "fnKeepIdempotent", fn := fun _ => fun
  | [d] => { results := [.lit (.bool true)], args := [d] }
  | _ => none }
def fnKeepIdempotentRow : OpenClaim := { program := "qxb6001118a", sum := "79f6e20095d59ffaa57c84c9e29ba19aa0cc3f611e162fdd57ec56dbebda1729", func := "example.com/tilewright/tilewright/zzlaws_internal_httpfront_b1.FnKeepIdempotent", spec := "fnKeepIdempotent", apart := false }
def FnKeepIdempotentSaid : Prop := fnKeepIdempotentRow.holds Try.pinned (OpenSpec.ofChange fnKeepIdempotentSpec)

/-- ITS FALSE NEIGHBOUR: 'it returns false'. Refute it at one input. -/
def fnKeepIdempotentWrong : ChangeSpec := { name := "fnKeepIdempotent", fn := fun _ => fun
  | [d] => { results := [.lit (.bool false)], args := [d] }
  | _ => none }
def FnKeepIdempotentWrongFalsely : Prop := fnKeepIdempotentRow.holds Try.pinned (OpenSpec.ofChange fnKeepIdempotentWrong)

/-- 'zzlaws_internal_httpfront_b1.FnAppendFieldRoundTrip': WHATEVER THE INPUT: true; the input reads as it did. -/
def fnAppendFieldRoundTripSpec : ChangeSpec := { name := "fnAppendFieldRoundTrip", fn := fun _ => fun
  | [d1, d2, d3] => { results := [.lit (.bool true)], args := [d1, d2, d3] }
  | _ => none }
def fnAppendFieldRoundTripRow : OpenClaim := { program := "qxb6001118a", sum := "79f6e20095d59ffaa57c84c9e29ba19aa0cc3f611e162fdd57ec56dbebda1729", func := "example.com/tilewright/tilewright/zzlaws_internal_httpfront_b1.FnAppendFieldRoundTrip", spec := "fnAppendFieldRoundTrip", apart := false }
def FnAppendFieldRoundTripSaid : Prop := fnAppendFieldRoundTripRow.holds Try.pinned (OpenSpec.ofChange fnAppendFieldRoundTripSpec)

/-- ITS FALSE NEIGHBOUR: 'it returns false'. Refute it at one input. -/
def fnAppendFieldRoundTripWrong : ChangeSpec := { name := "fnAppendFieldRoundTrip", fn := fun _ => fun
  | [d1, d2, d3] => { results := [.lit (.bool false)], args := [d1, d2, d3] }
  | _ => none }
def FnAppendFieldRoundTripWrongFalsely : Prop := fnAppendFieldRoundTripRow.holds Try.pinned (OpenSpec.ofChange fnAppendFieldRoundTripWrong)

/-- 'zzlaws_internal_httpfront_b1.FnAppendFieldIndependentOfPrefix': WHATEVER THE INPUT: true; the input reads as it did. -/
def fnAppendFieldIndependentOfPrefixSpec : ChangeSpec := { name := "fnAppendFieldIndependentOfPrefix", fn := fun _ => fun
  | [d1, d2, d3] => { results := [.lit (.bool true)], args := [d1, d2, d3] }
  | _ => none }
def fnAppendFieldIndependentOfPrefixRow : OpenClaim := { program := "qxb6001118a", sum := "79f6e20095d59ffaa57c84c9e29ba19aa0cc3f611e162fdd57ec56dbebda1729", func := "example.com/tilewright/tilewright/zzlaws_internal_httpfront_b1.FnAppendFieldIndependentOfPrefix", spec := "fnAppendFieldIndependentOfPrefix", apart := false }
def FnAppendFieldIndependentOfPrefixSaid : Prop := fnAppendFieldIndependentOfPrefixRow.holds Try.pinned (OpenSpec.ofChange fnAppendFieldIndependentOfPrefixSpec)

/-- ITS FALSE NEIGHBOUR: 'it returns false'. Refute it at one input. -/
def fnAppendFieldIndependentOfPrefixWrong : ChangeSpec := { name := "fnAppendFieldIndependentOfPrefix", fn := fun _ => fun
  | [d1, d2, d3] => { results := [.lit (.bool false)], args := [d1, d2, d3] }
  | _ => none }
def FnAppendFieldIndependentOfPrefixWrongFalsely : Prop := fnAppendFieldIndependentOfPrefixRow.holds Try.pinned (OpenSpec.ofChange fnAppendFieldIndependentOfPrefixWrong)

end Rows
end Go.Proofs.Qxb6001118a
