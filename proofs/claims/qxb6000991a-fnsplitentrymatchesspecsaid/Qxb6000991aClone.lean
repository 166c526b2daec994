/- zzClone, zzEqBytes. -/
import Derived.Test.Qxb6000991aSplit
import Derived.Laws.CopyOwn
import Derived.WalkSpells
import Derived.Deep.OwnRows
import Derived.Deep.QuietTactic
import Derived.BigQuiet
namespace Go.Proofs.Qxb6000991a
open Go.ChangeShapes Go.WideShapes Go.ChangeAt Go.RowKit
set_option linter.unusedVariables false

theorem Try.info5 : (Try.prog.info? 5).map (fun i => (i.zero, i.size, i.bytes)) = some (some (.int .u8 0), 1, 1) := by kernel_rfl

theorem eq_any (b o c b' o' c' n : Nat) (f : Nat → Int) (w : World) (hn : n ≤ 1048576)
    (hc : ∀ i, i < n → w.cell? ⟨b, o + i, none⟩ = some (.int .u8 (f i))) (hc' : ∀ i, i < n → w.cell? ⟨b', o' + i, none⟩ = some (.int .u8 (f i))) :
    Calls Try.prog 10 #[.slice (some ⟨b, o, none⟩) n c, .slice (some ⟨b', o', none⟩) n c'] w fun e w' => e = .returned (.bool true) ∧ ∃ q, w' = w.drewN q := by
  have hne : ((n : Int) != n) = false := by simp
  go_enter Try.func10, Try.ntmps10
  go_wp2
  go_loopw [5] (fun t wr => ∃ k : Nat, k ≤ n ∧ t = .int .i64 k ∧ ∃ q, wr = w.drewN q) (fun t _ => n - (intOf t).toNat)
  case atStart => exact ⟨0, Nat.zero_le _, rfl, 0, rfl⟩
  case round =>
    obtain ⟨k, hk, rfl, q, rfl⟩ := hrel
    by_cases hlt : k < n
    · have h1 := hc k hlt
      have h2 := hc' k hlt
      have hkk : (k : Int) < n := by omega
      go_wp2
      go_quiet (fail)
      go_wp2
      go_roundw
      case rel => exact ⟨k + 1, by omega, by go_num, q + nq, rfl⟩
      case measure => simp [intOf]; omega
    · go_wp2
      go_ret
      exact ⟨rfl, q, rfl⟩

theorem cell_alloc_some {W : World} {a : Addr} {v : Value} (o : Obj) (h : W.cell? a = some v) : (W.alloc o).cell? a = some v := by
  rw [World.cell?_alloc_old]
  · exact h
  · intro e
    unfold World.cell? at h
    rw [e] at h
    simp at h

/-- The row that the clone copies over. -/
def cellsOf (f : Nat → Int) (n : Nat) : List Value := (List.range n).map fun i => Value.int .u8 (f i)
theorem cellsOf_length (f : Nat → Int) (n : Nat) : (cellsOf f n).length = n := by simp [cellsOf]
theorem cellsOf_get (f : Nat → Int) (n i : Nat) (h : i < n) : (cellsOf f n)[i]? = some (.int .u8 (f i)) := by simp [cellsOf, h]

/-- The world behind make and copy. -/
theorem clone_world (x : Addr) (n c : Nat) (f : Nat → Int) (w : World)
    (hc : ∀ i, i < n → w.cell? (x.add i) = some (.int .u8 (f i))) :
    ∃ W2 : World, (∀ ty, (Builtin.copy_ #[22, 22] ty #[.slice (some ⟨w.heap.size, 0, none⟩) n n, .slice (some x) n c]).run Try.prog (w.alloc (.cells (madeCells #[.int .u8 0] n) 5)) = .ok (goInt n) W2) ∧
      Below w.heap.size w W2 ∧ w.heap.size < W2.heap.size ∧ ∀ i, i < n → W2.cell? ⟨w.heap.size, i, none⟩ = some (.int .u8 (f i)) := by
  have hg : (w.alloc (.cells (madeCells #[.int .u8 0] n) 5)).heap[w.heap.size]? = some (.cells (madeCells #[.int .u8 0] n) 5 (0, 0)) := by
    show (w.heap.push _)[w.heap.size]? = _
    simp
  have hrun := fun ty => run_copy_row Try.prog (w.alloc (.cells (madeCells #[.int .u8 0] n) 5)) 22 22 ty 5 w.heap.size 0 n n x n c (madeCells #[.int .u8 0] n) 5 (cellsOf f n)
    Try.underlying22 (by kernel_rfl) hg (by rw [cellsOf_length]; exact (Nat.min_self n).symm)
    (fun j v hj => by
      have hjn : j < n := by have := (List.getElem?_eq_some_iff.1 hj).1; rwa [cellsOf_length] at this
      rw [cellsOf_get f n j hjn] at hj
      cases hj
      exact cell_alloc_some _ (hc j hjn))
    (by rw [cellsOf_length, size_madeCells]; omega)
    (fun v hv => by
      simp only [cellsOf, List.mem_map] at hv
      obtain ⟨a, _, rfl⟩ := hv
      rfl)
  rw [cellsOf_length] at hrun
  refine ⟨_, hrun, below_setRow ((Below.refl _ _).alloc (Nat.le_refl _) _) (Nat.le_refl _) _, ?_, fun i hi => ?_⟩
  · have : (w.alloc (.cells (madeCells #[.int .u8 0] n) 5)).heap.size = w.heap.size + 1 := by simp
    simp only [World.setRow, Array.size_modify]
    omega
  · unfold World.cell?
    rw [setRow_heap _ _ _ _ _ _ hg]
    simp only [List.take_zero, List.nil_append, Option.isSome_none, Bool.false_eq_true, if_false, List.getElem?_toArray]
    rw [List.getElem?_append_left (by rw [cellsOf_length]; exact hi)]
    exact cellsOf_get f n i hi

theorem clone_any (x : Addr) (n c : Nat) (f : Nat → Int) (w : World) (hn : n ≤ 1048576)
    (hc : ∀ i, i < n → w.cell? (x.add i) = some (.int .u8 (f i))) :
    Calls Try.prog 7 #[.slice (some x) n c] w fun e w' => e = .returned (.slice (some ⟨w.heap.size, 0, none⟩) n n) ∧ Below w.heap.size w w' ∧ w.heap.size < w'.heap.size ∧ ∀ i, i < n → w'.cell? ⟨w.heap.size, i, none⟩ = some (.int .u8 (f i)) := by
  obtain ⟨W2, hcp, hW⟩ := clone_world x n c f w hc
  have q22 : ∀ (w : World) (a : Option Addr) (n c n' c' : Nat), (binOp .eql 22 (.slice a n c) (.slice none n' c')).run Try.prog w = .ok (.bool a.isNone) w := fun w a n c n' c' => Lib.run_eql_slice_nil w _ _ a n c n' c' Try.underlying22
  have hmk := fun w => run_make_row' (P := Try.prog) 22 5 (.int .u8 0) 1 Try.underlying22 Try.info5 rfl .i64 .i64 n (by omega) (by omega) w
  have HW := hid hW
  clear hW
  go_enter Try.func7, Try.ntmps7
  go_wp2_with fail
  go_ret
  exact ⟨rfl, HW.out⟩

theorem clone_nil (w : World) :
    Calls Try.prog 7 #[.slice none 0 0] w fun e w' => e = .returned (.slice none 0 0) ∧ w' = w := by
  have q22 : ∀ (w : World) (a : Option Addr) (n c n' c' : Nat), (binOp .eql 22 (.slice a n c) (.slice none n' c')).run Try.prog w = .ok (.bool a.isNone) w := fun w a n c n' c' => Lib.run_eql_slice_nil w _ _ a n c n' c' Try.underlying22
  go_enter Try.func7, Try.ntmps7
  go_wp2_with fail
  go_ret
  exact ⟨rfl, rfl⟩

end Go.Proofs.Qxb6000991a
