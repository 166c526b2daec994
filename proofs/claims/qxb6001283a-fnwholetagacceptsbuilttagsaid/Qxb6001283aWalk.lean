/- The walk of the law, at whatever slices and bools come in. -/
import Derived.Test.Qxb6001283aRows
import Derived.WalkKit
import Derived.ProofKit
import Derived.OpenShut
import Derived.ShutString
import Derived.ChangeOld
import Derived.Below
import Derived.Test.Qxb6001283aOpenA
import Derived.Test.Qxb6001283aOpenB
namespace Go.Proofs.Qxb6001283a.fnWholeTagAcceptsBuiltTag
open Go.ChangeShapes Go.WideShapes Go.ChangeAt Go.RowKit
open Go.ChangeMaps (open_string shut_string)
set_option linter.unusedVariables false

/-- WHAT THE WALK IS TOLD OF A SLICE OF INTEGERS THAT CAME IN: it is nil; or it leads to a row of 'cap' cells, the numbers 'zs' (the first 'len' are its elements, the rest its spare room), each fitting its kind. -/
def IsRow (k : IntKind) (w : World) (a : Option Addr) (len cap : Nat) (zs : List Int) : Prop :=
  (a = none ∧ len = 0 ∧ cap = 0 ∧ zs = []) ∨
  ∃ x, a = some x ∧ len ≤ cap ∧ cap ≤ maxLen ∧ zs.length = cap ∧ (∀ i, i < zs.length → w.cell? (x.add i) = some (.int k (zs.getD i 0))) ∧ ∀ n ∈ zs, (Lit.int k n).wf = true

theorem len_of {w : World} {a : Option Addr} {len cap : Nat} {zs : List Int} (h : IsRow .u8 w a len cap zs) : len ≤ 9223372036854775807 := by
  rcases h with ⟨_, h, _, _⟩ | ⟨x, _, h1, h2, _⟩
  · omega
  · unfold maxLen at h2; omega

theorem cameIn_of {w : World} {a : Option Addr} {len cap : Nat} {zs : List Int} (h : IsRow .u8 w a len cap zs) : CameIn w a len cap (fun i => zs.getD i 0) := by
  rcases h with ⟨rfl, rfl, rfl, rfl⟩ | ⟨x, rfl, h1, h2, h3, h4, h5⟩
  · exact ⟨fun i hi => by omega, fun _ => ⟨rfl, rfl⟩, fun h => by omega⟩
  · refine ⟨fun i hi => ?_, (fun h => by cases h), fun hp => ?_⟩
    · have hb := bounds_u8 (h5 (zs.getD i 0) (by rw [List.getD_eq_getElem?_getD, List.getElem?_eq_getElem (by omega)]; simp))
      exact ⟨hb.1, by show zs.getD i 0 < 256; omega⟩
    · obtain ⟨b, o, rfl, hc⟩ := ints_at h4 (by omega)
      exact ⟨b, o, rfl, World.block_lt_of_cell? w _ (hc 0 (by omega)), fun i hi => hc i (by omega)⟩

theorem zzBytes_no (a a' a'' : Option Addr) (n c n' c' n'' c'' : Nat) (x y z : Bool) (w : World) (h : 1048576 < n + n' + n'') (hn : n ≤ 9223372036854775807) (hn' : n' ≤ 9223372036854775807) (hn'' : n'' ≤ 9223372036854775807) :
    Calls Try.prog 22 #[.slice a n c, .slice a' n' c', .slice a'' n'' c'', .bool x, .bool y, .bool z] w fun e w' => e = .returned (.bool false) ∧ w' = w := by
  by_cases h1 : n ≤ 1048576
  · by_cases h2 : n' ≤ 1048576
    · by_cases h3 : n + n' ≤ 1048576
      · by_cases h4 : n'' ≤ 1048576
        · go_enter Try.func22, Try.ntmps22
          go_wp2
          go_ret
          exact ⟨rfl, rfl⟩
        · go_enter Try.func22, Try.ntmps22
          go_wp2
          go_ret
          exact ⟨rfl, rfl⟩
      · go_enter Try.func22, Try.ntmps22
        go_wp2
        go_ret
        exact ⟨rfl, rfl⟩
    · go_enter Try.func22, Try.ntmps22
      go_wp2
      go_ret
      exact ⟨rfl, rfl⟩
  · go_enter Try.func22, Try.ntmps22
    go_wp2
    go_ret
    exact ⟨rfl, rfl⟩

/-! ### STEP 1: THE WALK: the Go text returns true, AND WRITES NOTHING THAT WAS THERE: 'Below w.heap.size w w'' (Derived/Below.lean: '.refl', '.alloc', '.drew', '.setCell' at a new block, '.trans'). Open each 'IsRow' by 'rcases' AHEAD of 'go_enter'; part every test ahead of the walk. -/
theorem walk (a0 : Option Addr) (len0 cap0 : Nat) (z0 : List Int) (a1 : Option Addr) (len1 cap1 : Nat) (z1 : List Int) (a2 : Option Addr) (len2 cap2 : Nat) (z2 : List Int) (a3 : Bool) (a4 : Bool) (a5 : Bool) (w : World) (w0 : IsRow .u8 w a0 len0 cap0 z0) (w1 : IsRow .u8 w a1 len1 cap1 z1) (w2 : IsRow .u8 w a2 len2 cap2 z2) :
    Calls Try.prog 8 #[.slice a0 len0 cap0, .slice a1 len1 cap1, .slice a2 len2 cap2, .bool a3, .bool a4, .bool a5] w fun e w' => e = .returned (.bool true) ∧ Below w.heap.size w w' := by
  by_cases hbig : len0 + len1 + len2 ≤ 1048576
  · have c0 := cameIn_of w0
    have c1 := cameIn_of w1
    have c2 := cameIn_of w2
    cases a3 with
    | true => exact law_close a0 a1 a2 len0 cap0 len1 cap1 len2 cap2 _ _ _ a4 a5 w hbig c0 c1 c2
    | false =>
      cases a5 with
      | false => exact law_open_a a0 a1 a2 len0 cap0 len1 cap1 len2 cap2 _ _ _ a4 w hbig c0 c1 c2
      | true => exact law_open_b a0 a1 a2 len0 cap0 len1 cap1 len2 cap2 _ _ _ a4 w hbig c0 c1 c2
  · have H := hid (zzBytes_no a0 a1 a2 len0 cap0 len1 cap1 len2 cap2 a3 a4 a5 w (by omega) (len_of w0) (len_of w1) (len_of w2))
    go_enter Try.func8, Try.ntmps8
    go_wp2_with fail
    refine H.out.mono ?_
    rintro e w' ⟨rfl, rfl⟩
    go_wp2_with fail
    go_ret
    exact ⟨rfl, Below.refl _ _⟩

end Go.Proofs.Qxb6001283a.fnWholeTagAcceptsBuiltTag
