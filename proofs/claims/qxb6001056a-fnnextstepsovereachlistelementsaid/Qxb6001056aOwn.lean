/- Rows that the call itself makes, told by their cells. -/
import Derived.Test.Qxb6001056aParseAll
import Derived.Test.Qxb6001056aNext
import Derived.Laws.AppendOwnNone
namespace Go.Proofs.Qxb6001056a
open Go.ChangeShapes Go.WideShapes Go.ChangeAt Go.RowKit
set_option linter.unusedVariables false

theorem Try.info5 : (Try.prog.info? 5).map (fun i => (i.zero, i.size, i.bytes)) = some (some (.int .u8 0), 1, 1) := by kernel_rfl

/-- n bytes as cells. -/
def cellsOf (f : Nat → Int) (n : Nat) : List Value := (List.range n).map fun i => Value.int .u8 (f i)
theorem cellsOf_length (f : Nat → Int) (n : Nat) : (cellsOf f n).length = n := by simp [cellsOf]
theorem cellsOf_get (f : Nat → Int) (n i : Nat) (h : i < n) : (cellsOf f n)[i]? = some (.int .u8 (f i)) := by simp [cellsOf, h]
theorem cellsOf_one (f : Nat → Int) (n : Nat) : ∀ u ∈ cellsOf f n, u.oneCell' = true := by
  intro v hv
  simp only [cellsOf, List.mem_map] at hv
  obtain ⟨a, _, rfl⟩ := hv
  rfl

/-- f on the first n places, g behind them. -/
def glue (f : Nat → Int) (n : Nat) (g : Nat → Int) (i : Nat) : Int := if i < n then f i else g (i - n)
theorem cellsOf_append (f g : Nat → Int) (n m : Nat) : cellsOf f n ++ cellsOf g m = cellsOf (glue f n g) (n + m) := by
  apply List.ext_getElem?
  intro i
  by_cases h : i < n
  · rw [List.getElem?_append_left (by rw [cellsOf_length]; exact h), cellsOf_get f n i h, cellsOf_get _ _ i (by omega)]
    simp [glue, h]
  · rw [List.getElem?_append_right (by rw [cellsOf_length]; omega), cellsOf_length]
    by_cases h2 : i < n + m
    · rw [cellsOf_get g m (i - n) (by omega), cellsOf_get _ _ i h2]
      simp [glue, h]
    · rw [List.getElem?_eq_none (by rw [cellsOf_length]; omega), List.getElem?_eq_none (by rw [cellsOf_length]; omega)]

/-- What the row of n bytes at v is good for. -/
theorem own_cells {w : World} {base : Nat} {v : Value} {n : Nat} {f : Nat → Int} (h : w.ownsRow base 5 1 v n (cellsOf f n)) (hn : 0 < n) :
    ∃ g cap, v = .slice (some ⟨g, 0, none⟩) n cap ∧ base ≤ g ∧ g < w.heap.size ∧ n ≤ cap ∧ ∀ i, i < n → w.cell? ⟨g, 0 + i, none⟩ = some (.int .u8 (f i)) := by
  rcases h.2 with ⟨_, h0⟩ | ⟨g, cap, cur, hv, hb, hg, hnc, _, hsz, ht⟩
  · omega
  · refine ⟨g, cap, hv, hb, (Array.getElem?_eq_some_iff.1 hg).1, hnc, fun i hi => ?_⟩
    rw [Nat.zero_add]
    simp only [World.cell?, hg, Option.isSome_none, Bool.false_eq_true, if_false]
    have e : (cur.toList.take (n * 1))[i]? = some (.int .u8 (f i)) := by rw [ht]; exact cellsOf_get f n i hi
    rw [List.getElem?_take, if_pos (by omega)] at e
    simpa using e

/-- The cells of a slice, for append's law. -/
theorem src_cells {w : World} {b o n : Nat} {f : Nat → Int} (hc : ∀ i, i < n → w.cell? ⟨b, o + i, none⟩ = some (.int .u8 (f i))) :
    ∀ j u, (cellsOf f n)[j]? = some u → w.cell? ((⟨b, o, none⟩ : Addr).add j) = some u := by
  intro j u hj
  have hjn : j < n := by have := (List.getElem?_eq_some_iff.1 hj).1; rwa [cellsOf_length] at this
  rw [cellsOf_get f n j hjn] at hj
  cases hj
  have e : (⟨b, o, none⟩ : Addr).add j = ⟨b, o + j, none⟩ := by unfold Addr.add; split <;> simp_all
  rw [e]
  exact hc j hjn

theorem cell_grown {w w' : World} {row : Option Nat} (hg : w.grownBy w' row) {b o n : Nat} {f : Nat → Int} (hr : ∀ k, row = some k → b ≠ k)
    (hc : ∀ i, i < n → w.cell? ⟨b, o + i, none⟩ = some (.int .u8 (f i))) : ∀ i, i < n → w'.cell? ⟨b, o + i, none⟩ = some (.int .u8 (f i)) :=
  fun i hi => hg.cell (hc i hi) (fun e => hr b e.symm rfl)

end Go.Proofs.Qxb6001056a
