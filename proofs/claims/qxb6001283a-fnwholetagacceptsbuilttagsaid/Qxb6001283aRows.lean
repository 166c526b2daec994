/-
  No cell of these rows narrows 'for every input' (looked for: loops, veiled, ifaces, maps, wideKeys, modest, calm, conditions, laid).
  DERIVED. THE GIVEN ROWS OF THIS SEAT. 9 by the template 'for every input the law returns true; each argument reads behind the call as it read before'; 0 by the template 'total and deterministic' (their statements: Qxb6001283aTotals.lean).
  GIVEN WITH THE SEED: the statements are not yours to turn. If you find one false, say at which input.
  Laid BY PROGRAM, IN A SANDBOX (cutbox-rows.mjs): the forced cells as the released guide's own fill.sh prints them over the translation f629a38c27dad9b5… (all of the seat's roots in one cut). By AI agents, Wed Nov 11 2026. No macro, syntax, notation, axiom, sorry.
-/
import Derived.Test.Qxb6001283aChecked
import GoSem.Claim
import GoSem.ClaimJoined
import GoSem.ClaimMapViews
import Derived.JoinedTies
import Derived.KernelRfl
namespace Go.Proofs.Qxb6001283a
/- THE CELL 'sum', in the pinned program and in every row, IS THE sha256 OF THE DUMP (.gsa) THAT Qxb6001283aProg.lean LOADS. Nothing in Lean hashes anything: it is a label: what it is worth is what the hold of that sum in a sandbox is worth. -/
noncomputable def Try.pinned : Pinned := { name := "qxb6001283a", sum := "f629a38c27dad9b58edd606c168f12701749e841454797a0b8dffd9086ec5939", checked := Try.checked }
namespace Rows
def none {H : Type} : Left H := { results := [], args := [] }

/-- 'zzlaws_internal_markdown_b1.FnThematicBreakIgnoresBlanksAndWhatComesBefore': WHATEVER THE INPUT: true; the input reads as it did. -/
def fnThematicBreakIgnoresBlanksAndWhatComesBeforeSpec : ChangeSpec := { name := "fnThematicBreakIgnoresBlanksAndWhatComesBefore", fn := fun _ => fun
  | [d1, d2, d3, d4, d5, d6, d7, d8, d9] => { results := [.lit (.bool true)], args := [d1, d2, d3, d4, d5, d6, d7, d8, d9] }
  | _ => none }
def fnThematicBreakIgnoresBlanksAndWhatComesBeforeRow : OpenClaim := { program := "qxb6001283a", sum := "f629a38c27dad9b58edd606c168f12701749e841454797a0b8dffd9086ec5939", func := "example.com/parlorkeep/parlorkeep/zzlaws_internal_markdown_b1.FnThematicBreakIgnoresBlanksAndWhatComesBefore", spec := "fnThematicBreakIgnoresBlanksAndWhatComesBefore", apart := false }
def FnThematicBreakIgnoresBlanksAndWhatComesBeforeSaid : Prop := fnThematicBreakIgnoresBlanksAndWhatComesBeforeRow.holds Try.pinned (OpenSpec.ofChange fnThematicBreakIgnoresBlanksAndWhatComesBeforeSpec)

/-- ITS FALSE NEIGHBOUR: 'it returns false'. Refute it at one input. -/
def fnThematicBreakIgnoresBlanksAndWhatComesBeforeWrong : ChangeSpec := { name := "fnThematicBreakIgnoresBlanksAndWhatComesBefore", fn := fun _ => fun
  | [d1, d2, d3, d4, d5, d6, d7, d8, d9] => { results := [.lit (.bool false)], args := [d1, d2, d3, d4, d5, d6, d7, d8, d9] }
  | _ => none }
def FnThematicBreakIgnoresBlanksAndWhatComesBeforeWrongFalsely : Prop := fnThematicBreakIgnoresBlanksAndWhatComesBeforeRow.holds Try.pinned (OpenSpec.ofChange fnThematicBreakIgnoresBlanksAndWhatComesBeforeWrong)

/-- 'zzlaws_internal_markdown_b1.FnThematicBreakSplitTail': WHATEVER THE INPUT: true; the input reads as it did. -/
def fnThematicBreakSplitTailSpec : ChangeSpec := { name := "fnThematicBreakSplitTail", fn := fun _ => fun
  | [d1, d2, d3] => { results := [.lit (.bool true)], args := [d1, d2, d3] }
  | _ => none }
def fnThematicBreakSplitTailRow : OpenClaim := { program := "qxb6001283a", sum := "f629a38c27dad9b58edd606c168f12701749e841454797a0b8dffd9086ec5939", func := "example.com/parlorkeep/parlorkeep/zzlaws_internal_markdown_b1.FnThematicBreakSplitTail", spec := "fnThematicBreakSplitTail", apart := false }
def FnThematicBreakSplitTailSaid : Prop := fnThematicBreakSplitTailRow.holds Try.pinned (OpenSpec.ofChange fnThematicBreakSplitTailSpec)

/-- ITS FALSE NEIGHBOUR: 'it returns false'. Refute it at one input. -/
def fnThematicBreakSplitTailWrong : ChangeSpec := { name := "fnThematicBreakSplitTail", fn := fun _ => fun
  | [d1, d2, d3] => { results := [.lit (.bool false)], args := [d1, d2, d3] }
  | _ => none }
def FnThematicBreakSplitTailWrongFalsely : Prop := fnThematicBreakSplitTailRow.holds Try.pinned (OpenSpec.ofChange fnThematicBreakSplitTailWrong)

/-- 'zzlaws_internal_markdown_b1.FnThematicBreakOneMoreMark': WHATEVER THE INPUT: true; the input reads as it did. -/
def fnThematicBreakOneMoreMarkSpec : ChangeSpec := { name := "fnThematicBreakOneMoreMark", fn := fun _ => fun
  | [d1, d2, d3, d4, d5, d6] => { results := [.lit (.bool true)], args := [d1, d2, d3, d4, d5, d6] }
  | _ => none }
def fnThematicBreakOneMoreMarkRow : OpenClaim := { program := "qxb6001283a", sum := "f629a38c27dad9b58edd606c168f12701749e841454797a0b8dffd9086ec5939", func := "example.com/parlorkeep/parlorkeep/zzlaws_internal_markdown_b1.FnThematicBreakOneMoreMark", spec := "fnThematicBreakOneMoreMark", apart := false }
def FnThematicBreakOneMoreMarkSaid : Prop := fnThematicBreakOneMoreMarkRow.holds Try.pinned (OpenSpec.ofChange fnThematicBreakOneMoreMarkSpec)

/-- ITS FALSE NEIGHBOUR: 'it returns false'. Refute it at one input. -/
def fnThematicBreakOneMoreMarkWrong : ChangeSpec := { name := "fnThematicBreakOneMoreMark", fn := fun _ => fun
  | [d1, d2, d3, d4, d5, d6] => { results := [.lit (.bool false)], args := [d1, d2, d3, d4, d5, d6] }
  | _ => none }
def FnThematicBreakOneMoreMarkWrongFalsely : Prop := fnThematicBreakOneMoreMarkRow.holds Try.pinned (OpenSpec.ofChange fnThematicBreakOneMoreMarkWrong)

/-- 'zzlaws_internal_markdown_b1.FnWholeTagEndsAtGreaterThan': WHATEVER THE INPUT: true; the input reads as it did. -/
def fnWholeTagEndsAtGreaterThanSpec : ChangeSpec := { name := "fnWholeTagEndsAtGreaterThan", fn := fun _ => fun
  | [d] => { results := [.lit (.bool true)], args := [d] }
  | _ => none }
def fnWholeTagEndsAtGreaterThanRow : OpenClaim := { program := "qxb6001283a", sum := "f629a38c27dad9b58edd606c168f12701749e841454797a0b8dffd9086ec5939", func := "example.com/parlorkeep/parlorkeep/zzlaws_internal_markdown_b1.FnWholeTagEndsAtGreaterThan", spec := "fnWholeTagEndsAtGreaterThan", inPlace := ["internal/bytealg.IndexByteString", "internal/bytealg.IndexByte"], apart := false }
def FnWholeTagEndsAtGreaterThanSaid : Prop := fnWholeTagEndsAtGreaterThanRow.holds Try.pinned (OpenSpec.ofChange fnWholeTagEndsAtGreaterThanSpec)

/-- ITS FALSE NEIGHBOUR: 'it returns false'. Refute it at one input. -/
def fnWholeTagEndsAtGreaterThanWrong : ChangeSpec := { name := "fnWholeTagEndsAtGreaterThan", fn := fun _ => fun
  | [d] => { results := [.lit (.bool false)], args := [d] }
  | _ => none }
def FnWholeTagEndsAtGreaterThanWrongFalsely : Prop := fnWholeTagEndsAtGreaterThanRow.holds Try.pinned (OpenSpec.ofChange fnWholeTagEndsAtGreaterThanWrong)

/-- 'zzlaws_internal_markdown_b1.FnWholeTagPrefixClosed': WHATEVER THE INPUT: true; the input reads as it did. -/
def fnWholeTagPrefixClosedSpec : ChangeSpec := { name := "fnWholeTagPrefixClosed", fn := fun _ => fun
  | [d] => { results := [.lit (.bool true)], args := [d] }
  | _ => none }
def fnWholeTagPrefixClosedRow : OpenClaim := { program := "qxb6001283a", sum := "f629a38c27dad9b58edd606c168f12701749e841454797a0b8dffd9086ec5939", func := "example.com/parlorkeep/parlorkeep/zzlaws_internal_markdown_b1.FnWholeTagPrefixClosed", spec := "fnWholeTagPrefixClosed", inPlace := ["internal/bytealg.IndexByteString", "internal/bytealg.IndexByte"], apart := false }
def FnWholeTagPrefixClosedSaid : Prop := fnWholeTagPrefixClosedRow.holds Try.pinned (OpenSpec.ofChange fnWholeTagPrefixClosedSpec)

/-- ITS FALSE NEIGHBOUR: 'it returns false'. Refute it at one input. -/
def fnWholeTagPrefixClosedWrong : ChangeSpec := { name := "fnWholeTagPrefixClosed", fn := fun _ => fun
  | [d] => { results := [.lit (.bool false)], args := [d] }
  | _ => none }
def FnWholeTagPrefixClosedWrongFalsely : Prop := fnWholeTagPrefixClosedRow.holds Try.pinned (OpenSpec.ofChange fnWholeTagPrefixClosedWrong)

/-- 'zzlaws_internal_markdown_b1.FnWholeTagAcceptsBuiltTag': WHATEVER THE INPUT: true; the input reads as it did. -/
def fnWholeTagAcceptsBuiltTagSpec : ChangeSpec := { name := "fnWholeTagAcceptsBuiltTag", fn := fun _ => fun
  | [d1, d2, d3, d4, d5, d6] => { results := [.lit (.bool true)], args := [d1, d2, d3, d4, d5, d6] }
  | _ => none }
def fnWholeTagAcceptsBuiltTagRow : OpenClaim := { program := "qxb6001283a", sum := "f629a38c27dad9b58edd606c168f12701749e841454797a0b8dffd9086ec5939", func := "example.com/parlorkeep/parlorkeep/zzlaws_internal_markdown_b1.FnWholeTagAcceptsBuiltTag", spec := "fnWholeTagAcceptsBuiltTag", inPlace := ["internal/bytealg.IndexByteString", "internal/bytealg.IndexByte"], apart := false }
def FnWholeTagAcceptsBuiltTagSaid : Prop := fnWholeTagAcceptsBuiltTagRow.holds Try.pinned (OpenSpec.ofChange fnWholeTagAcceptsBuiltTagSpec)

/-- ITS FALSE NEIGHBOUR: 'it returns false'. Refute it at one input. -/
def fnWholeTagAcceptsBuiltTagWrong : ChangeSpec := { name := "fnWholeTagAcceptsBuiltTag", fn := fun _ => fun
  | [d1, d2, d3, d4, d5, d6] => { results := [.lit (.bool false)], args := [d1, d2, d3, d4, d5, d6] }
  | _ => none }
def FnWholeTagAcceptsBuiltTagWrongFalsely : Prop := fnWholeTagAcceptsBuiltTagRow.holds Try.pinned (OpenSpec.ofChange fnWholeTagAcceptsBuiltTagWrong)

/-- 'zzlaws_internal_markdown_b1.FnGoesOnMovesForward': WHATEVER THE INPUT: true; the input reads as it did. -/
def fnGoesOnMovesForwardSpec : ChangeSpec := { name := "fnGoesOnMovesForward", fn := fun _ => fun
  | [d1, d2, d3, d4, d5, d6, d7, d8] => { results := [.lit (.bool true)], args := [d1, d2, d3, d4, d5, d6, d7, d8] }
  | _ => none }
def fnGoesOnMovesForwardRow : OpenClaim := { program := "qxb6001283a", sum := "f629a38c27dad9b58edd606c168f12701749e841454797a0b8dffd9086ec5939", func := "example.com/parlorkeep/parlorkeep/zzlaws_internal_markdown_b1.FnGoesOnMovesForward", spec := "fnGoesOnMovesForward", apart := false }
def FnGoesOnMovesForwardSaid : Prop := fnGoesOnMovesForwardRow.holds Try.pinned (OpenSpec.ofChange fnGoesOnMovesForwardSpec)

/-- ITS FALSE NEIGHBOUR: 'it returns false'. Refute it at one input. -/
def fnGoesOnMovesForwardWrong : ChangeSpec := { name := "fnGoesOnMovesForward", fn := fun _ => fun
  | [d1, d2, d3, d4, d5, d6, d7, d8] => { results := [.lit (.bool false)], args := [d1, d2, d3, d4, d5, d6, d7, d8] }
  | _ => none }
def FnGoesOnMovesForwardWrongFalsely : Prop := fnGoesOnMovesForwardRow.holds Try.pinned (OpenSpec.ofChange fnGoesOnMovesForwardWrong)

/-- 'zzlaws_internal_markdown_b1.FnGoesOnBlockQuoteSpec': WHATEVER THE INPUT: true; the input reads as it did. -/
def fnGoesOnBlockQuoteSpecSpec : ChangeSpec := { name := "fnGoesOnBlockQuoteSpec", fn := fun _ => fun
  | [d1, d2, d3, d4] => { results := [.lit (.bool true)], args := [d1, d2, d3, d4] }
  | _ => none }
def fnGoesOnBlockQuoteSpecRow : OpenClaim := { program := "qxb6001283a", sum := "f629a38c27dad9b58edd606c168f12701749e841454797a0b8dffd9086ec5939", func := "example.com/parlorkeep/parlorkeep/zzlaws_internal_markdown_b1.FnGoesOnBlockQuoteSpec", spec := "fnGoesOnBlockQuoteSpec", apart := false }
def FnGoesOnBlockQuoteSpecSaid : Prop := fnGoesOnBlockQuoteSpecRow.holds Try.pinned (OpenSpec.ofChange fnGoesOnBlockQuoteSpecSpec)

/-- ITS FALSE NEIGHBOUR: 'it returns false'. Refute it at one input. -/
def fnGoesOnBlockQuoteSpecWrong : ChangeSpec := { name := "fnGoesOnBlockQuoteSpec", fn := fun _ => fun
  | [d1, d2, d3, d4] => { results := [.lit (.bool false)], args := [d1, d2, d3, d4] }
  | _ => none }
def FnGoesOnBlockQuoteSpecWrongFalsely : Prop := fnGoesOnBlockQuoteSpecRow.holds Try.pinned (OpenSpec.ofChange fnGoesOnBlockQuoteSpecWrong)

/-- 'zzlaws_internal_markdown_b1.FnGoesOnListItemNarrowerWidth': WHATEVER THE INPUT: true; the input reads as it did. -/
def fnGoesOnListItemNarrowerWidthSpec : ChangeSpec := { name := "fnGoesOnListItemNarrowerWidth", fn := fun _ => fun
  | [d1, d2, d3, d4, d5, d6, d7] => { results := [.lit (.bool true)], args := [d1, d2, d3, d4, d5, d6, d7] }
  | _ => none }
def fnGoesOnListItemNarrowerWidthRow : OpenClaim := { program := "qxb6001283a", sum := "f629a38c27dad9b58edd606c168f12701749e841454797a0b8dffd9086ec5939", func := "example.com/parlorkeep/parlorkeep/zzlaws_internal_markdown_b1.FnGoesOnListItemNarrowerWidth", spec := "fnGoesOnListItemNarrowerWidth", apart := false }
def FnGoesOnListItemNarrowerWidthSaid : Prop := fnGoesOnListItemNarrowerWidthRow.holds Try.pinned (OpenSpec.ofChange fnGoesOnListItemNarrowerWidthSpec)

/-- ITS FALSE NEIGHBOUR: 'it returns false'. Refute it at one input. -/
def fnGoesOnListItemNarrowerWidthWrong : ChangeSpec := { name := "fnGoesOnListItemNarrowerWidth", fn := fun _ => fun
  | [d1, d2, d3, d4, d5, d6, d7] => { results := [.lit (.bool false)], args := [d1, d2, d3, d4, d5, d6, d7] }
  | _ => none }
def FnGoesOnListItemNarrowerWidthWrongFalsely : Prop := fnGoesOnListItemNarrowerWidthRow.holds Try.pinned (OpenSpec.ofChange fnGoesOnListItemNarrowerWidthWrong)

end Rows
end Go.Proofs.Qxb6001283a
