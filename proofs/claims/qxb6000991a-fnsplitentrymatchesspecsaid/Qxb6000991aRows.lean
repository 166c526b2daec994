/-
  No cell of these rows narrows 'for every input' (looked for: loops, veiled, ifaces, maps, wideKeys, modest, calm, conditions, laid).
  DERIVED. THE GIVEN ROWS OF THIS SEAT. 3 by the template 'for every input the law returns true; each argument reads behind the call as it read before'; 0 by the template 'total and deterministic' (their statements: Qxb6000991aTotals.lean).
  GIVEN WITH THE SEED: the statements are not yours to turn. If you find one false, say at which input.
  Laid BY PROGRAM, IN A SANDBOX (cutbox-rows.mjs): the forced cells as the released guide's own fill.sh prints them over the translation 20ade6484c6231ff… (all of the seat's roots in one cut). By AI agents, Wed Nov 11 2026. No macro, syntax, notation, axiom, sorry.
-/
import Derived.Test.Qxb6000991aChecked
import GoSem.Claim
import GoSem.ClaimJoined
import GoSem.ClaimMapViews
import Derived.JoinedTies
import Derived.KernelRfl
namespace Go.Proofs.Qxb6000991a
/- THE CELL 'sum', in the pinned program and in every row, IS THE sha256 OF THE DUMP (.gsa) THAT Qxb6000991aProg.lean LOADS. Nothing in Lean hashes anything: it is a label: what it is worth is what the hold of that sum in a sandbox is worth. -/
noncomputable def Try.pinned : Pinned := { name := "qxb6000991a", sum := "20ade6484c6231ff03b2562ce65b754a6e318a57911403870d81a026451d8e95", checked := Try.checked }
namespace Rows
def none {H : Type} : Left H := { results := [], args := [] }

/-- 'zzlaws_root_b1.FnSplitEntryMatchesSpec': WHATEVER THE INPUT: true; the input reads as it did. -/
def fnSplitEntryMatchesSpecSpec : ChangeSpec := { name := "fnSplitEntryMatchesSpec", fn := fun _ => fun
  | [d] => { results := [.lit (.bool true)], args := [d] }
  | _ => none }
def fnSplitEntryMatchesSpecRow : OpenClaim := { program := "qxb6000991a", sum := "20ade6484c6231ff03b2562ce65b754a6e318a57911403870d81a026451d8e95", func := "example.com/gentle-indent/gentle-indent/zzlaws_root_b1.FnSplitEntryMatchesSpec", spec := "fnSplitEntryMatchesSpec", inPlace := ["internal/bytealg.IndexByte"], apart := false }
def FnSplitEntryMatchesSpecSaid : Prop := fnSplitEntryMatchesSpecRow.holds Try.pinned (OpenSpec.ofChange fnSplitEntryMatchesSpecSpec)

/-- ITS FALSE NEIGHBOUR: 'it returns false'. Refute it at one input. -/
def fnSplitEntryMatchesSpecWrong : ChangeSpec := { name := "fnSplitEntryMatchesSpec", fn := fun _ => fun
  | [d] => { results := [.lit (.bool false)], args := [d] }
  | _ => none }
def FnSplitEntryMatchesSpecWrongFalsely : Prop := fnSplitEntryMatchesSpecRow.holds Try.pinned (OpenSpec.ofChange fnSplitEntryMatchesSpecWrong)

/-- 'zzlaws_root_b1.FnSplitEntryIgnoresWhatFollowsValue': WHATEVER THE INPUT: true; the input reads as it did. -/
def fnSplitEntryIgnoresWhatFollowsValueSpec : ChangeSpec := { name := "fnSplitEntryIgnoresWhatFollowsValue", fn := fun _ => fun
  | [d1, d2] => { results := [.lit (.bool true)], args := [d1, d2] }
  | _ => none }
def fnSplitEntryIgnoresWhatFollowsValueRow : OpenClaim := { program := "qxb6000991a", sum := "20ade6484c6231ff03b2562ce65b754a6e318a57911403870d81a026451d8e95", func := "example.com/gentle-indent/gentle-indent/zzlaws_root_b1.FnSplitEntryIgnoresWhatFollowsValue", spec := "fnSplitEntryIgnoresWhatFollowsValue", inPlace := ["internal/bytealg.IndexByte"], apart := false }
def FnSplitEntryIgnoresWhatFollowsValueSaid : Prop := fnSplitEntryIgnoresWhatFollowsValueRow.holds Try.pinned (OpenSpec.ofChange fnSplitEntryIgnoresWhatFollowsValueSpec)

/-- ITS FALSE NEIGHBOUR: 'it returns false'. Refute it at one input. -/
def fnSplitEntryIgnoresWhatFollowsValueWrong : ChangeSpec := { name := "fnSplitEntryIgnoresWhatFollowsValue", fn := fun _ => fun
  | [d1, d2] => { results := [.lit (.bool false)], args := [d1, d2] }
  | _ => none }
def FnSplitEntryIgnoresWhatFollowsValueWrongFalsely : Prop := fnSplitEntryIgnoresWhatFollowsValueRow.holds Try.pinned (OpenSpec.ofChange fnSplitEntryIgnoresWhatFollowsValueWrong)

/-- 'zzlaws_root_b1.FnSplitEntryShiftsUnderColonFreePrefix': WHATEVER THE INPUT: true; the input reads as it did. -/
def fnSplitEntryShiftsUnderColonFreePrefixSpec : ChangeSpec := { name := "fnSplitEntryShiftsUnderColonFreePrefix", fn := fun _ => fun
  | [d1, d2] => { results := [.lit (.bool true)], args := [d1, d2] }
  | _ => none }
def fnSplitEntryShiftsUnderColonFreePrefixRow : OpenClaim := { program := "qxb6000991a", sum := "20ade6484c6231ff03b2562ce65b754a6e318a57911403870d81a026451d8e95", func := "example.com/gentle-indent/gentle-indent/zzlaws_root_b1.FnSplitEntryShiftsUnderColonFreePrefix", spec := "fnSplitEntryShiftsUnderColonFreePrefix", inPlace := ["internal/bytealg.IndexByte"], apart := false }
def FnSplitEntryShiftsUnderColonFreePrefixSaid : Prop := fnSplitEntryShiftsUnderColonFreePrefixRow.holds Try.pinned (OpenSpec.ofChange fnSplitEntryShiftsUnderColonFreePrefixSpec)

/-- ITS FALSE NEIGHBOUR: 'it returns false'. Refute it at one input. -/
def fnSplitEntryShiftsUnderColonFreePrefixWrong : ChangeSpec := { name := "fnSplitEntryShiftsUnderColonFreePrefix", fn := fun _ => fun
  | [d1, d2] => { results := [.lit (.bool false)], args := [d1, d2] }
  | _ => none }
def FnSplitEntryShiftsUnderColonFreePrefixWrongFalsely : Prop := fnSplitEntryShiftsUnderColonFreePrefixRow.holds Try.pinned (OpenSpec.ofChange fnSplitEntryShiftsUnderColonFreePrefixWrong)

end Rows
end Go.Proofs.Qxb6000991a
