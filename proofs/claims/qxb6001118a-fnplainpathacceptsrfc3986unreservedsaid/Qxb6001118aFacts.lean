/- The closed facts of the row, each a lemma of its own. Why: three of them read the head of the cut (Program.initOrder, some 700 signs, for this seat has six roots) by String.toList, which the kernel reckons at a cost near the memory lid; so the head is told once as a list of numbers, and the three facts are reckoned over that list. -/
import Derived.Test.Qxb6001118aRows
import Derived.ProofKit
namespace Go.Proofs.Qxb6001118a.fnPlainPathAcceptsRFC3986Unreserved

theorem and2 {a b : Bool} (ha : a = true) (hb : b = true) : (a && b) = true := by rw [ha, hb]; rfl

/-- The head of the cut, sign by sign. -/
def headSigns : List Nat := [
  104, 97, 114, 110, 101, 115, 115, 32, 52, 102, 50, 52, 57, 51, 56, 48, 57, 53, 53, 49, 54, 48, 48, 50, 99, 57, 48, 48, 98, 99, 51, 102,
  53, 100, 51, 101, 53, 49, 102, 101, 53, 55, 56, 48, 50, 50, 48, 52, 54, 99, 55, 50, 56, 56, 98, 48, 51, 98, 100, 50, 99, 56, 53, 57,
  53, 55, 54, 48, 53, 49, 53, 97, 32, 99, 117, 116, 32, 97, 116, 32, 101, 120, 97, 109, 112, 108, 101, 46, 99, 111, 109, 47, 116, 105, 108, 101,
  119, 114, 105, 103, 104, 116, 47, 116, 105, 108, 101, 119, 114, 105, 103, 104, 116, 47, 122, 122, 108, 97, 119, 115, 95, 105, 110, 116, 101, 114, 110, 97,
  108, 95, 104, 116, 116, 112, 102, 114, 111, 110, 116, 95, 98, 49, 46, 70, 110, 80, 108, 97, 105, 110, 80, 97, 116, 104, 83, 112, 108, 105, 116, 115,
  65, 116, 65, 110, 121, 66, 121, 116, 101, 32, 101, 120, 97, 109, 112, 108, 101, 46, 99, 111, 109, 47, 116, 105, 108, 101, 119, 114, 105, 103, 104, 116,
  47, 116, 105, 108, 101, 119, 114, 105, 103, 104, 116, 47, 122, 122, 108, 97, 119, 115, 95, 105, 110, 116, 101, 114, 110, 97, 108, 95, 104, 116, 116, 112,
  102, 114, 111, 110, 116, 95, 98, 49, 46, 70, 110, 80, 108, 97, 105, 110, 80, 97, 116, 104, 82, 101, 102, 117, 115, 101, 115, 82, 101, 115, 101, 114,
  118, 101, 100, 69, 115, 99, 97, 112, 101, 115, 65, 110, 100, 78, 111, 110, 65, 83, 67, 73, 73, 32, 101, 120, 97, 109, 112, 108, 101, 46, 99, 111,
  109, 47, 116, 105, 108, 101, 119, 114, 105, 103, 104, 116, 47, 116, 105, 108, 101, 119, 114, 105, 103, 104, 116, 47, 122, 122, 108, 97, 119, 115, 95, 105,
  110, 116, 101, 114, 110, 97, 108, 95, 104, 116, 116, 112, 102, 114, 111, 110, 116, 95, 98, 49, 46, 70, 110, 80, 108, 97, 105, 110, 80, 97, 116, 104,
  65, 99, 99, 101, 112, 116, 115, 82, 70, 67, 51, 57, 56, 54, 85, 110, 114, 101, 115, 101, 114, 118, 101, 100, 32, 101, 120, 97, 109, 112, 108, 101,
  46, 99, 111, 109, 47, 116, 105, 108, 101, 119, 114, 105, 103, 104, 116, 47, 116, 105, 108, 101, 119, 114, 105, 103, 104, 116, 47, 122, 122, 108, 97, 119,
  115, 95, 105, 110, 116, 101, 114, 110, 97, 108, 95, 104, 116, 116, 112, 102, 114, 111, 110, 116, 95, 98, 49, 46, 70, 110, 75, 101, 101, 112, 73, 100,
  101, 109, 112, 111, 116, 101, 110, 116, 32, 101, 120, 97, 109, 112, 108, 101, 46, 99, 111, 109, 47, 116, 105, 108, 101, 119, 114, 105, 103, 104, 116, 47,
  116, 105, 108, 101, 119, 114, 105, 103, 104, 116, 47, 122, 122, 108, 97, 119, 115, 95, 105, 110, 116, 101, 114, 110, 97, 108, 95, 104, 116, 116, 112, 102,
  114, 111, 110, 116, 95, 98, 49, 46, 70, 110, 65, 112, 112, 101, 110, 100, 70, 105, 101, 108, 100, 82, 111, 117, 110, 100, 84, 114, 105, 112, 32, 101,
  120, 97, 109, 112, 108, 101, 46, 99, 111, 109, 47, 116, 105, 108, 101, 119, 114, 105, 103, 104, 116, 47, 116, 105, 108, 101, 119, 114, 105, 103, 104, 116,
  47, 122, 122, 108, 97, 119, 115, 95, 105, 110, 116, 101, 114, 110, 97, 108, 95, 104, 116, 116, 112, 102, 114, 111, 110, 116, 95, 98, 49, 46, 70, 110,
  65, 112, 112, 101, 110, 100, 70, 105, 101, 108, 100, 73, 110, 100, 101, 112, 101, 110, 100, 101, 110, 116, 79, 102, 80, 114, 101, 102, 105, 120]

set_option maxRecDepth 100000 in
theorem head_of : Try.prog.initOrder = String.ofList (headSigns.map Char.ofNat) := by
  conv => lhs; whnf
  kernel_rfl
theorem head_list : Try.prog.initOrder.toList = headSigns.map Char.ofNat := (congrArg String.toList head_of).trans String.toList_ofList

/-- No word of the head is a lift. -/
theorem strip_cut (r : List (List Char)) : stripLifts liftWords ("cut".toList :: r) = ([], "cut".toList :: r) := rfl

theorem may_of (P : Program) (h : (behindMainWord (wordsSigns P.initOrder.toList)).head? = some "cut".toList) (h1 : P.laysLater = false) (h2 : P.bearsReflect = false) (h3 : P.doorFits [] = true) : P.mayEnter = true := by
  unfold Program.mayEnter
  generalize behindMainWord (wordsSigns P.initOrder.toList) = ws at h ⊢
  cases ws with
  | nil => cases h
  | cons c r =>
    simp only [List.head?_cons, Option.some.injEq] at h
    subst h
    simp only [strip_cut, h1, h2, h3]
    rfl

theorem lifts_of (P : Program) (h : (behindMainWord (wordsSigns P.initOrder.toList)).head? = some "cut".toList) : P.headLifts = [] := by
  unfold Program.headLifts
  generalize behindMainWord (wordsSigns P.initOrder.toList) = ws at h ⊢
  cases ws with
  | nil => cases h
  | cons c r =>
    simp only [List.head?_cons, Option.some.injEq] at h
    subst h
    simp only [strip_cut]
    rfl

theorem final_of (P : Program) (h : (behindMainWord (wordsSigns P.initOrder.toList)).head? = some "cut".toList) : P.liftsFinal = false := by
  have hl := lifts_of P h
  unfold Program.liftsFinal
  generalize behindMainWord (wordsSigns P.initOrder.toList) = ws at h ⊢
  cases ws with
  | nil => cases h
  | cons c r =>
    simp only [List.head?_cons, Option.some.injEq] at h
    subst h
    simp only [hl]
    rfl

theorem make_of (P : Program) (h : (behindMainWord (wordsSigns P.initOrder.toList)).head? = some "cut".toList) : P.make = some .cut := by
  unfold Program.make
  generalize behindMainWord (wordsSigns P.initOrder.toList) = ws at h ⊢
  cases ws with
  | nil => cases h
  | cons c r =>
    simp only [List.head?_cons, Option.some.injEq] at h
    subst h
    generalize P.headLifts = X
    rfl
theorem head_word : (behindMainWord (wordsSigns (headSigns.map Char.ofNat))).head? = some "cut".toList := by kernel_rfl
theorem head_first : (behindMainWord (wordsSigns Try.prog.initOrder.toList)).head? = some "cut".toList := (congrArg (fun x => (behindMainWord (wordsSigns x)).head?) head_list).trans head_word
theorem lays_no : Try.prog.laysLater = false := by kernel_rfl
theorem bears_no : Try.prog.bearsReflect = false := by kernel_rfl
theorem door_ok : Try.prog.doorFits [] = true := by kernel_rfl
theorem may_enter : Try.prog.mayEnter = true := may_of Try.prog head_first lays_no bears_no door_ok
theorem lifts_final : Try.prog.liftsFinal = false := final_of Try.prog head_first
theorem make_cut : Try.prog.make = some .cut := make_of Try.prog head_first
theorem make_is : (Try.prog.make == some Rows.fnPlainPathAcceptsRFC3986UnreservedRow.make) = true := (congrArg (fun x => x == some Rows.fnPlainPathAcceptsRFC3986UnreservedRow.make) make_cut).trans (by as_aux_lemma => kernel_rfl)
theorem lifted_is : (Rows.fnPlainPathAcceptsRFC3986UnreservedRow.lifted == Try.prog.liftsFinal) = true := (congrArg (fun x => Rows.fnPlainPathAcceptsRFC3986UnreservedRow.lifted == x) lifts_final).trans (by as_aux_lemma => kernel_rfl)

theorem closed : joinedFacts Try.prog 5 Try.f5 Rows.fnPlainPathAcceptsRFC3986UnreservedSpec Rows.fnPlainPathAcceptsRFC3986UnreservedRow = true := by
  unfold joinedFacts
  refine (and2 (and2 (and2 (and2 (and2 (and2 (and2 (and2 (and2 (and2 (and2 (and2 (and2 (and2 (and2 (and2 (and2 (and2 (and2 (and2 (and2 (and2 (and2 (and2 (and2 (and2 (and2 (and2 (and2 (and2 (and2 ?_ ?_) ?_) ?_) ?_) ?_) ?_) ?_) ?_) ?_) ?_) ?_) ?_) ?_) ?_) ?_) ?_) ?_) ?_) ?_) ?_) ?_) ?_) ?_) ?_) ?_) ?_) ?_) ?_) ?_) ?_) ?_)
  · as_aux_lemma => kernel_rfl
  · as_aux_lemma => kernel_rfl
  · as_aux_lemma => kernel_rfl
  · as_aux_lemma => kernel_rfl
  · as_aux_lemma => kernel_rfl
  · as_aux_lemma => kernel_rfl
  · as_aux_lemma => kernel_rfl
  · as_aux_lemma => kernel_rfl
  · as_aux_lemma => kernel_rfl
  · as_aux_lemma => kernel_rfl
  · as_aux_lemma => kernel_rfl
  · as_aux_lemma => kernel_rfl
  · as_aux_lemma => kernel_rfl
  · as_aux_lemma => kernel_rfl
  · as_aux_lemma => kernel_rfl
  · as_aux_lemma => kernel_rfl
  · as_aux_lemma => kernel_rfl
  · as_aux_lemma => kernel_rfl
  · as_aux_lemma => kernel_rfl
  · as_aux_lemma => kernel_rfl
  · as_aux_lemma => kernel_rfl
  · as_aux_lemma => kernel_rfl
  · as_aux_lemma => kernel_rfl
  · as_aux_lemma => kernel_rfl
  · as_aux_lemma => kernel_rfl
  · exact may_enter
  · exact lifted_is
  · exact make_is
  · as_aux_lemma => kernel_rfl
  · as_aux_lemma => kernel_rfl
  · as_aux_lemma => kernel_rfl
  · as_aux_lemma => kernel_rfl

end Go.Proofs.Qxb6001118a.fnPlainPathAcceptsRFC3986Unreserved
