/-
  THE SHELL OF A PROOF OF 'Rows.FnWholeTagAcceptsBuiltTagSaid' ('example.com/parlorkeep/parlorkeep/zzlaws_internal_markdown_b1.FnWholeTagAcceptsBuiltTag'), WRITTEN BY PROGRAM (proof-skeleton.mjs, third state) off the guide's own print for that function. Not trusted: Lean checks it.
  THE HOLE IS FILLED. ALL ELSE IS THE GUIDE's OWN WAY (howto/template/XProofs.lean; Derived/Test/ChunkProofs.lean for 'Below') at this function's number and types: leave it.
-/
import Derived.Test.Qxb6001283aRows
import Derived.WalkKit
import Derived.ProofKit
import Derived.OpenShut
import Derived.ShutString
import Derived.ChangeOld
import Derived.Below
import Derived.Test.Qxb6001283aLifted
import Derived.Test.Qxb6001283aFacts
namespace Go.Proofs.Qxb6001283a.fnWholeTagAcceptsBuiltTag
open Go.ChangeShapes Go.WideShapes Go.ChangeAt Go.RowKit
open Go.ChangeMaps (open_string shut_string)
set_option linter.unusedVariables false

theorem over : Rows.fnWholeTagAcceptsBuiltTagRow.holds Try.pinned (OpenSpec.ofChange Rows.fnWholeTagAcceptsBuiltTagSpec) :=
  OpenClaim.holds_of_wide 8 Try.f8 rfl rfl rfl rfl rfl rfl rfl ⟨rfl, rfl, rfl, rfl, rfl⟩ rfl rfl rfl rfl rfl (by kernel_rfl) Try.func8 closed
    (of_decide_eq_true (by kernel_rfl)) (by unfold Func.isWrapper; first | (rw [if_pos (by decide +kernel)]; kernel_rfl) | (rw [if_neg (by decide +kernel)]; exact ⟨rfl, rfl⟩))
    (fun os started H enc _ => lifted os started H enc)

/-- ████ THE STATEMENT ████ -/
theorem proved : Rows.FnWholeTagAcceptsBuiltTagSaid := over
#print axioms proved
end Go.Proofs.Qxb6001283a.fnWholeTagAcceptsBuiltTag
