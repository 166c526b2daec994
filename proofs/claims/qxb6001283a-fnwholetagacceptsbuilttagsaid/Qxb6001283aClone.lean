/- zzClone: a loop of stores into a new row. -/
import Derived.Test.Qxb6001283aLeaf
import Derived.WalkSpells
import Derived.Deep.OwnRows
namespace Go.Proofs.Qxb6001283a
open Go.ChangeShapes Go.WideShapes Go.ChangeAt Go.RowKit
set_option linter.unusedVariables false

theorem Try.info5 : (Try.prog.info? 5).map (fun i => (i.zero, i.size, i.bytes)) = some (some (.int .u8 0), 1, 1) := by kernel_rfl

/-- The slice that came in. -/
def CameIn (w : World) (a : Option Addr) (n c : Nat) (f : Nat → Int) : Prop :=
  (∀ i, i < n → 0 ≤ f i ∧ f i < 256) ∧ (a = none → n = 0 ∧ c = 0) ∧ (0 < n → ∃ b o, a = some ⟨b, o, none⟩ ∧ b < w.heap.size ∧ ∀ i, i < n → w.cell? ⟨b, o + i, none⟩ = some (.int .u8 (f i)))

theorem cameIn_below {w w' : World} {a : Option Addr} {n c : Nat} {f : Nat → Int} (h : CameIn w a n c f) (hb : Below w.heap.size w w') : CameIn w' a n c f := by
  refine ⟨h.1, h.2.1, fun hn => ?_⟩
  obtain ⟨b, o, ha, hlt, hc⟩ := h.2.2 hn
  exact ⟨b, o, ha, Nat.lt_of_lt_of_le hlt hb.size, fun i hi => (hb.cell (p := ⟨b, o + i, none⟩) hlt).trans (hc i hi)⟩

/-- The row of the clone. -/
structure Row (w wr : World) (n k : Nat) (f : Nat → Int) : Prop where
  below : Below w.heap.size w wr
  lt : w.heap.size < wr.heap.size
  warm : ∀ j, wr.frozen? ⟨w.heap.size, j, none⟩ = false
  has : ∀ j, j < n → ∃ v, wr.cell? ⟨w.heap.size, j, none⟩ = some v
  done : ∀ j, j < k → wr.cell? ⟨w.heap.size, j, none⟩ = some (.int .u8 (f j))

theorem row_start (w : World) (n : Nat) (f : Nat → Int) : Row w (w.alloc (.cells (madeCells #[.int .u8 0] n) 5)) n 0 f := by
  refine ⟨(Below.refl _ _).alloc (Nat.le_refl _) _, by simp, fun j => by simp, fun j hj => ?_, fun j hj => by omega⟩
  rw [World.cell?_alloc_new]
  exact ⟨(madeCells #[.int .u8 0] n)[j]'(by rw [size_madeCells]; exact hj), by simp⟩

theorem row_step {w wr : World} {n k : Nat} {f : Nat → Int} (h : Row w wr n k f) (hk : k < n) : Row w (wr.setCell ⟨w.heap.size, k, none⟩ (.int .u8 (f k))) n (k + 1) f := by
  obtain ⟨v, hv⟩ := h.has k hk
  have hs : (wr.setCell ⟨w.heap.size, k, none⟩ (.int .u8 (f k))).cell? ⟨w.heap.size, k, none⟩ = some (.int .u8 (f k)) := World.cell?_setCell_same _ _ _ hv
  have ho : ∀ j, j ≠ k → (wr.setCell ⟨w.heap.size, k, none⟩ (.int .u8 (f k))).cell? ⟨w.heap.size, j, none⟩ = wr.cell? ⟨w.heap.size, j, none⟩ := fun j hj => World.cell?_setCell_other _ _ _ _ (fun e => hj (by cases e; rfl))
  refine ⟨h.below.setCell (Nat.le_refl _) _, by have := h.lt; simpa [World.setCell] using this, fun j => by rw [World.frozen?_setCell]; exact h.warm j, fun j hj => ?_, fun j hj => ?_⟩
  · by_cases e : j = k
    · rw [e]; exact ⟨_, hs⟩
    · rw [ho j e]; exact h.has j hj
  · by_cases e : j = k
    · rw [e]; exact hs
    · rw [ho j e]; exact h.done j (by omega)

def ClonePost (w : World) (n : Nat) (f : Nat → Int) (e : Ending) (w' : World) : Prop :=
  ∃ a c, e = .returned (.slice a n c) ∧ Below w.heap.size w w' ∧ (0 < n → a = some ⟨w.heap.size, 0, none⟩ ∧ w.heap.size < w'.heap.size ∧ ∀ i, i < n → w'.cell? ⟨w.heap.size, i, none⟩ = some (.int .u8 (f i)))

theorem clone_any (a : Option Addr) (n c : Nat) (f : Nat → Int) (w : World) (hn : n ≤ 1048576) (h : CameIn w a n c f) :
    Calls Try.prog 13 #[.slice a n c] w (ClonePost w n f) := by
  have q22 : ∀ (w : World) (a : Option Addr) (n c n' c' : Nat), (binOp .eql 22 (.slice a n c) (.slice none n' c')).run Try.prog w = .ok (.bool a.isNone) w := fun w a n c n' c' => Lib.run_eql_slice_nil w _ _ a n c n' c' Try.underlying22
  have hmk := fun w => run_make_row' (P := Try.prog) 22 5 (.int .u8 0) 1 Try.underlying22 Try.info5 rfl .i64 .i64 n (by omega) (by omega) w
  have H := hid h
  clear h
  cases a with
  | none =>
    obtain ⟨rfl, rfl⟩ := H.out.2.1 rfl
    go_enter Try.func13, Try.ntmps13
    go_wp2_with fail
    go_ret
    exact ⟨none, 0, rfl, Below.refl _ _, fun h => by omega⟩
  | some x =>
    go_enter Try.func13, Try.ntmps13
    go_wp2_with fail
    go_loopw [4] (fun i wr => ∃ k : Nat, k ≤ n ∧ i = .int .i64 k ∧ Row w wr n k f) (fun i _ => n - (intOf i).toNat)
    case atStart => exact ⟨0, by omega, rfl, row_start w n f⟩
    case round =>
      obtain ⟨k, hk, rfl, hrow⟩ := hrel
      have HR := hid hrow
      clear hrow hmk
      by_cases hlt : k < n
      · obtain ⟨b, o, hx, hb, hc⟩ := H.out.2.2 (by omega)
        cases hx
        have hsrc := (HR.out.below.cell (p := ⟨b, o + k, none⟩) hb).trans (hc k hlt)
        have hfro := HR.out.warm k
        obtain ⟨v0, hdst⟩ := HR.out.has k hlt
        clear hc
        go_wp2_with fail
        go_roundw
        case rel => exact ⟨k + 1, by omega, by go_num, row_step HR.out hlt⟩
        case measure => simp [intOf]; omega
      · go_wp2_with fail
        go_ret
        exact ⟨_, _, rfl, HR.out.below, fun _ => ⟨rfl, HR.out.lt, fun i hi => HR.out.done i (by omega)⟩⟩

end Go.Proofs.Qxb6001283a
