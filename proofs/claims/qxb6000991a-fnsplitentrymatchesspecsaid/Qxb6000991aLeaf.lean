/- The leaves of the road: isBlank, zzBlank, zzBytes, bytes.IndexByte, the two trims. -/
import Derived.Test.Qxb6000991aRows
import Derived.WalkKit
import Derived.ProofKit
import Derived.Lib.BytesEntry
namespace Go.Proofs.Qxb6000991a
open Go.ChangeShapes Go.WideShapes Go.ChangeAt Go.RowKit
set_option linter.unusedVariables false

theorem hid {p : Prop} (h : p) : Hid p := h

/-- A blank: a space or a tab. -/
def blankB (c : Int) : Bool := (c == 32) || (c == 9)

theorem isBlank_any (c : Int) (w : World) :
    Calls Try.prog 17 #[.int .u8 c] w fun e w' => e = .returned (.bool (blankB c)) ∧ w' = w := by
  unfold blankB
  by_cases h1 : (c == 32) = true
  · go_enter Try.func17, Try.ntmps17
    go_wp2
    go_ret
    exact ⟨by rw [h1]; rfl, rfl⟩
  · have h1' : (c == 32) = false := by simpa using h1
    go_enter Try.func17, Try.ntmps17
    go_wp2
    go_ret
    exact ⟨by rw [h1']; rfl, rfl⟩

theorem zzBlank_any (c : Int) (w : World) :
    Calls Try.prog 9 #[.int .u8 c] w fun e w' => e = .returned (.bool (blankB c)) ∧ w' = w := by
  unfold blankB
  by_cases h1 : (c == 32) = true
  · go_enter Try.func9, Try.ntmps9
    go_wp2
    go_ret
    exact ⟨by rw [h1]; rfl, rfl⟩
  · have h1' : (c == 32) = false := by simpa using h1
    go_enter Try.func9, Try.ntmps9
    go_wp2
    go_ret
    exact ⟨by rw [h1']; rfl, rfl⟩

theorem zzBytes_yes (a : Option Addr) (n c : Nat) (w : World) (h : n ≤ 1048576) :
    Calls Try.prog 6 #[.slice a n c] w fun e w' => e = .returned (.bool true) ∧ w' = w := by
  go_enter Try.func6, Try.ntmps6
  go_wp2
  go_ret
  exact ⟨rfl, rfl⟩

theorem zzBytes_no (a : Option Addr) (n c : Nat) (w : World) (h : 1048576 < n) :
    Calls Try.prog 6 #[.slice a n c] w fun e w' => e = .returned (.bool false) ∧ w' = w := by
  go_enter Try.func6, Try.ntmps6
  go_wp2
  go_ret
  exact ⟨rfl, rfl⟩

end Go.Proofs.Qxb6000991a
