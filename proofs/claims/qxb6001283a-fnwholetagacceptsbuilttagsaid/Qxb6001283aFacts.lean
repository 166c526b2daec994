/- The closed facts of the row, each a lemma of its own. Why: three of them read the head of the cut (Program.initOrder, some 900 signs, for this seat has nine roots) by String.toList, which the kernel reckons at a cost beyond the memory lid; so the head is told once as a list of numbers, and the three facts are reckoned over that list. -/
import Derived.Test.Qxb6001283aRows
import Derived.ProofKit
namespace Go.Proofs.Qxb6001283a.fnWholeTagAcceptsBuiltTag

theorem and2 {a b : Bool} (ha : a = true) (hb : b = true) : (a && b) = true := by rw [ha, hb]; rfl

/-- The head of the cut, sign by sign. -/
def headSigns : List Nat := [
  104, 97, 114, 110, 101, 115, 115, 32, 48, 50, 51, 102, 101, 55, 100, 52, 53, 51, 54, 97, 55, 102, 101, 55, 99, 100, 48, 50, 50, 49, 99, 102,
  54, 99, 100, 100, 57, 100, 53, 102, 102, 50, 56, 99, 99, 54, 98, 50, 48, 55, 49, 101, 49, 97, 98, 56, 99, 56, 51, 49, 48, 56, 53, 52,
  56, 53, 100, 50, 53, 52, 51, 98, 32, 99, 117, 116, 32, 97, 116, 32, 101, 120, 97, 109, 112, 108, 101, 46, 99, 111, 109, 47, 112, 97, 114, 108,
  111, 114, 107, 101, 101, 112, 47, 112, 97, 114, 108, 111, 114, 107, 101, 101, 112, 47, 122, 122, 108, 97, 119, 115, 95, 105, 110, 116, 101, 114, 110, 97,
  108, 95, 109, 97, 114, 107, 100, 111, 119, 110, 95, 98, 49, 46, 70, 110, 84, 104, 101, 109, 97, 116, 105, 99, 66, 114, 101, 97, 107, 73, 103, 110,
  111, 114, 101, 115, 66, 108, 97, 110, 107, 115, 65, 110, 100, 87, 104, 97, 116, 67, 111, 109, 101, 115, 66, 101, 102, 111, 114, 101, 32, 101, 120, 97,
  109, 112, 108, 101, 46, 99, 111, 109, 47, 112, 97, 114, 108, 111, 114, 107, 101, 101, 112, 47, 112, 97, 114, 108, 111, 114, 107, 101, 101, 112, 47, 122,
  122, 108, 97, 119, 115, 95, 105, 110, 116, 101, 114, 110, 97, 108, 95, 109, 97, 114, 107, 100, 111, 119, 110, 95, 98, 49, 46, 70, 110, 84, 104, 101,
  109, 97, 116, 105, 99, 66, 114, 101, 97, 107, 83, 112, 108, 105, 116, 84, 97, 105, 108, 32, 101, 120, 97, 109, 112, 108, 101, 46, 99, 111, 109, 47,
  112, 97, 114, 108, 111, 114, 107, 101, 101, 112, 47, 112, 97, 114, 108, 111, 114, 107, 101, 101, 112, 47, 122, 122, 108, 97, 119, 115, 95, 105, 110, 116,
  101, 114, 110, 97, 108, 95, 109, 97, 114, 107, 100, 111, 119, 110, 95, 98, 49, 46, 70, 110, 84, 104, 101, 109, 97, 116, 105, 99, 66, 114, 101, 97,
  107, 79, 110, 101, 77, 111, 114, 101, 77, 97, 114, 107, 32, 101, 120, 97, 109, 112, 108, 101, 46, 99, 111, 109, 47, 112, 97, 114, 108, 111, 114, 107,
  101, 101, 112, 47, 112, 97, 114, 108, 111, 114, 107, 101, 101, 112, 47, 122, 122, 108, 97, 119, 115, 95, 105, 110, 116, 101, 114, 110, 97, 108, 95, 109,
  97, 114, 107, 100, 111, 119, 110, 95, 98, 49, 46, 70, 110, 87, 104, 111, 108, 101, 84, 97, 103, 69, 110, 100, 115, 65, 116, 71, 114, 101, 97, 116,
  101, 114, 84, 104, 97, 110, 32, 101, 120, 97, 109, 112, 108, 101, 46, 99, 111, 109, 47, 112, 97, 114, 108, 111, 114, 107, 101, 101, 112, 47, 112, 97,
  114, 108, 111, 114, 107, 101, 101, 112, 47, 122, 122, 108, 97, 119, 115, 95, 105, 110, 116, 101, 114, 110, 97, 108, 95, 109, 97, 114, 107, 100, 111, 119,
  110, 95, 98, 49, 46, 70, 110, 87, 104, 111, 108, 101, 84, 97, 103, 80, 114, 101, 102, 105, 120, 67, 108, 111, 115, 101, 100, 32, 101, 120, 97, 109,
  112, 108, 101, 46, 99, 111, 109, 47, 112, 97, 114, 108, 111, 114, 107, 101, 101, 112, 47, 112, 97, 114, 108, 111, 114, 107, 101, 101, 112, 47, 122, 122,
  108, 97, 119, 115, 95, 105, 110, 116, 101, 114, 110, 97, 108, 95, 109, 97, 114, 107, 100, 111, 119, 110, 95, 98, 49, 46, 70, 110, 87, 104, 111, 108,
  101, 84, 97, 103, 65, 99, 99, 101, 112, 116, 115, 66, 117, 105, 108, 116, 84, 97, 103, 32, 101, 120, 97, 109, 112, 108, 101, 46, 99, 111, 109, 47,
  112, 97, 114, 108, 111, 114, 107, 101, 101, 112, 47, 112, 97, 114, 108, 111, 114, 107, 101, 101, 112, 47, 122, 122, 108, 97, 119, 115, 95, 105, 110, 116,
  101, 114, 110, 97, 108, 95, 109, 97, 114, 107, 100, 111, 119, 110, 95, 98, 49, 46, 70, 110, 71, 111, 101, 115, 79, 110, 77, 111, 118, 101, 115, 70,
  111, 114, 119, 97, 114, 100, 32, 101, 120, 97, 109, 112, 108, 101, 46, 99, 111, 109, 47, 112, 97, 114, 108, 111, 114, 107, 101, 101, 112, 47, 112, 97,
  114, 108, 111, 114, 107, 101, 101, 112, 47, 122, 122, 108, 97, 119, 115, 95, 105, 110, 116, 101, 114, 110, 97, 108, 95, 109, 97, 114, 107, 100, 111, 119,
  110, 95, 98, 49, 46, 70, 110, 71, 111, 101, 115, 79, 110, 66, 108, 111, 99, 107, 81, 117, 111, 116, 101, 83, 112, 101, 99, 32, 101, 120, 97, 109,
  112, 108, 101, 46, 99, 111, 109, 47, 112, 97, 114, 108, 111, 114, 107, 101, 101, 112, 47, 112, 97, 114, 108, 111, 114, 107, 101, 101, 112, 47, 122, 122,
  108, 97, 119, 115, 95, 105, 110, 116, 101, 114, 110, 97, 108, 95, 109, 97, 114, 107, 100, 111, 119, 110, 95, 98, 49, 46, 70, 110, 71, 111, 101, 115,
  79, 110, 76, 105, 115, 116, 73, 116, 101, 109, 78, 97, 114, 114, 111, 119, 101, 114, 87, 105, 100, 116, 104]

set_option maxRecDepth 100000 in
theorem head_of : Try.prog.initOrder = String.ofList (headSigns.map Char.ofNat) := by
  conv => lhs; whnf
  kernel_rfl
theorem head_list : Try.prog.initOrder.toList = headSigns.map Char.ofNat := (congrArg String.toList head_of).trans String.toList_ofList

/-- No word of the head is a lift. -/
theorem strip_cut (r : List (List Char)) : stripLifts liftWords ("cut".toList :: r) = ([], "cut".toList :: r) := rfl

theorem may_of (P : Program) (h : (behindMainWord (wordsSigns P.initOrder.toList)).head? = some "cut".toList) (h1 : P.laysLater = false) (h2 : P.bearsReflect = false) (h3 : P.doorFits [] = true) : P.mayEnter = true := by
  unfold Program.mayEnter
  generalize behindMainWord (wordsSigns P.initOrder.toList) = ws at h ⊢
  cases ws with
  | nil => cases h
  | cons c r =>
    simp only [List.head?_cons, Option.some.injEq] at h
    subst h
    simp only [strip_cut, h1, h2, h3]
    rfl

theorem lifts_of (P : Program) (h : (behindMainWord (wordsSigns P.initOrder.toList)).head? = some "cut".toList) : P.headLifts = [] := by
  unfold Program.headLifts
  generalize behindMainWord (wordsSigns P.initOrder.toList) = ws at h ⊢
  cases ws with
  | nil => cases h
  | cons c r =>
    simp only [List.head?_cons, Option.some.injEq] at h
    subst h
    simp only [strip_cut]
    rfl

theorem final_of (P : Program) (h : (behindMainWord (wordsSigns P.initOrder.toList)).head? = some "cut".toList) : P.liftsFinal = false := by
  have hl := lifts_of P h
  unfold Program.liftsFinal
  generalize behindMainWord (wordsSigns P.initOrder.toList) = ws at h ⊢
  cases ws with
  | nil => cases h
  | cons c r =>
    simp only [List.head?_cons, Option.some.injEq] at h
    subst h
    simp only [hl]
    rfl

theorem make_of (P : Program) (h : (behindMainWord (wordsSigns P.initOrder.toList)).head? = some "cut".toList) : P.make = some .cut := by
  unfold Program.make
  generalize behindMainWord (wordsSigns P.initOrder.toList) = ws at h ⊢
  cases ws with
  | nil => cases h
  | cons c r =>
    simp only [List.head?_cons, Option.some.injEq] at h
    subst h
    generalize P.headLifts = X
    rfl
theorem head_word : (behindMainWord (wordsSigns (headSigns.map Char.ofNat))).head? = some "cut".toList := by kernel_rfl
theorem head_first : (behindMainWord (wordsSigns Try.prog.initOrder.toList)).head? = some "cut".toList := (congrArg (fun x => (behindMainWord (wordsSigns x)).head?) head_list).trans head_word
theorem lays_no : Try.prog.laysLater = false := by kernel_rfl
theorem bears_no : Try.prog.bearsReflect = false := by kernel_rfl
theorem door_ok : Try.prog.doorFits [] = true := by kernel_rfl
theorem may_enter : Try.prog.mayEnter = true := may_of Try.prog head_first lays_no bears_no door_ok
theorem lifts_final : Try.prog.liftsFinal = false := final_of Try.prog head_first
theorem make_cut : Try.prog.make = some .cut := make_of Try.prog head_first
theorem make_is : (Try.prog.make == some Rows.fnWholeTagAcceptsBuiltTagRow.make) = true := (congrArg (fun x => x == some Rows.fnWholeTagAcceptsBuiltTagRow.make) make_cut).trans (by as_aux_lemma => kernel_rfl)
theorem lifted_is : (Rows.fnWholeTagAcceptsBuiltTagRow.lifted == Try.prog.liftsFinal) = true := (congrArg (fun x => Rows.fnWholeTagAcceptsBuiltTagRow.lifted == x) lifts_final).trans (by as_aux_lemma => kernel_rfl)

theorem closed : joinedFacts Try.prog 8 Try.f8 Rows.fnWholeTagAcceptsBuiltTagSpec Rows.fnWholeTagAcceptsBuiltTagRow = true := by
  unfold joinedFacts
  refine (and2 (and2 (and2 (and2 (and2 (and2 (and2 (and2 (and2 (and2 (and2 (and2 (and2 (and2 (and2 (and2 (and2 (and2 (and2 (and2 (and2 (and2 (and2 (and2 (and2 (and2 (and2 (and2 (and2 (and2 (and2 ?_ ?_) ?_) ?_) ?_) ?_) ?_) ?_) ?_) ?_) ?_) ?_) ?_) ?_) ?_) ?_) ?_) ?_) ?_) ?_) ?_) ?_) ?_) ?_) ?_) ?_) ?_) ?_) ?_) ?_) ?_) ?_)
  · as_aux_lemma => kernel_rfl
  · as_aux_lemma => kernel_rfl
  · as_aux_lemma => kernel_rfl
  · as_aux_lemma => kernel_rfl
  · as_aux_lemma => kernel_rfl
  · as_aux_lemma => kernel_rfl
  · as_aux_lemma => kernel_rfl
  · as_aux_lemma => kernel_rfl
  · as_aux_lemma => kernel_rfl
  · as_aux_lemma => kernel_rfl
  · as_aux_lemma => kernel_rfl
  · as_aux_lemma => kernel_rfl
  · as_aux_lemma => kernel_rfl
  · as_aux_lemma => kernel_rfl
  · as_aux_lemma => kernel_rfl
  · as_aux_lemma => kernel_rfl
  · as_aux_lemma => kernel_rfl
  · as_aux_lemma => kernel_rfl
  · as_aux_lemma => kernel_rfl
  · as_aux_lemma => kernel_rfl
  · as_aux_lemma => kernel_rfl
  · as_aux_lemma => kernel_rfl
  · as_aux_lemma => kernel_rfl
  · as_aux_lemma => kernel_rfl
  · as_aux_lemma => kernel_rfl
  · exact may_enter
  · exact lifted_is
  · exact make_is
  · as_aux_lemma => kernel_rfl
  · as_aux_lemma => kernel_rfl
  · as_aux_lemma => kernel_rfl
  · as_aux_lemma => kernel_rfl

end Go.Proofs.Qxb6001283a.fnWholeTagAcceptsBuiltTag
