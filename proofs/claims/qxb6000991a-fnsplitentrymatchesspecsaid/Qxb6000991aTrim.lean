/- bytes.IndexByte and the two trims. -/
import Derived.Test.Qxb6000991aLeaf
namespace Go.Proofs.Qxb6000991a
open Go.ChangeShapes Go.WideShapes Go.ChangeAt Go.RowKit
set_option linter.unusedVariables false

/-- The first n bytes told by f. -/
def rowOf (f : Nat → Int) (n : Nat) : List Int := (List.range n).map f
theorem rowOf_length (f : Nat → Int) (n : Nat) : (rowOf f n).length = n := by simp [rowOf]
theorem rowOf_get (f : Nat → Int) (n i : Nat) (h : i < n) : (rowOf f n).getD i 0 = f i := by
  simp [rowOf, List.getD_eq_getElem?_getD, h]

/-- r is the place of the first byte 58 among the first n, or -1. -/
def FirstAt (f : Nat → Int) (n : Nat) (r : Int) : Prop :=
  (r = -1 ∧ ∀ i, i < n → f i ≠ 58) ∨ ∃ k : Nat, k < n ∧ r = k ∧ f k = 58 ∧ ∀ i, i < k → f i ≠ 58

theorem byte_eq (x : Int) (h0 : 0 ≤ x) (h1 : x < 256) : (UInt8.ofNat x.toNat == (58 : UInt8)) = decide (x = 58) := by
  obtain ⟨n, rfl⟩ := Int.eq_ofNat_of_zero_le h0
  rw [Bool.eq_iff_iff]
  simp only [beq_iff_eq, decide_eq_true_eq, ← UInt8.toNat_inj]
  simp
  omega

theorem firstAt (n : Nat) : ∀ (f : Nat → Int), (∀ i, i < n → 0 ≤ f i ∧ f i < 256) → FirstAt f n (Lib.indexByte (Lib.bytesOf (rowOf f n)) 58) := by
  induction n with
  | zero => intro f _; exact .inl ⟨rfl, fun i hi => by omega⟩
  | succ n ih =>
    intro f hf
    have e : rowOf f (n + 1) = f 0 :: rowOf (fun i => f (i + 1)) n := by
      simp only [rowOf, List.range_succ_eq_map, List.map_cons, List.map_map]; rfl
    rw [e]
    have ih' := ih (fun i => f (i + 1)) (fun i hi => hf (i + 1) (by omega))
    have h0 := hf 0 (by omega)
    simp only [Lib.bytesOf, List.map_cons, Lib.indexByte]
    rw [byte_eq _ h0.1 h0.2]
    by_cases hz : f 0 = 58
    · simp only [hz, decide_true, if_true]
      exact .inr ⟨0, by omega, rfl, hz, fun i hi => by omega⟩
    · simp only [hz, decide_false]
      change FirstAt f (n + 1) (if Lib.indexByte (Lib.bytesOf (rowOf (fun i => f (i + 1)) n)) 58 == -1 then -1 else Lib.indexByte (Lib.bytesOf (rowOf (fun i => f (i + 1)) n)) 58 + 1)
      rcases ih' with ⟨hr, ha⟩ | ⟨k, hk, hr, hk58, ha⟩
      · rw [hr]
        refine .inl ⟨rfl, fun i hi => ?_⟩
        match i with
        | 0 => exact hz
        | i + 1 => exact ha i (by omega)
      · rw [hr, if_neg (by simp)]
        refine .inr ⟨k + 1, by omega, by simp, hk58, fun i hi => ?_⟩
        match i with
        | 0 => exact hz
        | i + 1 => exact ha i (by omega)

set_option maxRecDepth 100000 in
theorem indexByte_any (b o n c : Nat) (f : Nat → Int) (w : World) (hf : ∀ i, i < n → 0 ≤ f i ∧ f i < 256)
    (hc : ∀ i, i < n → w.cell? ⟨b, o + i, none⟩ = some (.int .u8 (f i))) :
    Calls Try.prog 15 #[.slice (some ⟨b, o, none⟩) n c, .int .u8 58] w fun e w' => ∃ r, e = .returned (.int .i64 r) ∧ w' = w ∧ FirstAt f n r := by
  have H := hid (firstAt n f hf)
  have hc' : ∀ i, i < n → w.cell? ⟨b, o + i, none⟩ = some (.int .u8 ((rowOf f n).getD i 0)) := fun i hi => by rw [rowOf_get f n i hi]; exact hc i hi
  clear hf
  go_enter Try.func15, Try.ntmps15
  go_wp2
  rw [run_callFunc_extern Try.func19 (by kernel_rfl) (by kernel_rfl) (by kernel_rfl) (e := Extern.BytealgIndexByte.indexByte) (by kernel_rfl), Lib.run_indexByteSlice w b o n c (rowOf f n) (rowOf_length f n) hc' 58]
  simp only [Result.andThen]
  rw [Oper.upon_value]
  go_wp2
  go_ret
  exact ⟨_, rfl, rfl, H.out⟩

set_option maxRecDepth 100000 in
theorem indexByte_nil (w : World) :
    Calls Try.prog 15 #[.slice none 0 0, .int .u8 58] w fun e w' => e = .returned (.int .i64 (-1)) ∧ w' = w := by
  go_enter Try.func15, Try.ntmps15
  go_wp2
  rw [run_callFunc_extern Try.func19 (by kernel_rfl) (by kernel_rfl) (by kernel_rfl) (e := Extern.BytealgIndexByte.indexByte) (by kernel_rfl), Lib.run_indexByteNil w 0 0 58]
  simp only [Result.andThen]
  rw [Oper.upon_value]
  go_wp2
  go_ret
  exact ⟨rfl, rfl⟩

/-- A slot's length. -/
def lenOf : Value → Nat | .slice _ m _ => m | _ => 0

/-- What trimBlanksRight leaves: m bytes of n. -/
def TrimR (f : Nat → Int) (n m : Nat) : Prop := m ≤ n ∧ (0 < m → blankB (f (m - 1)) = false) ∧ ∀ j, m ≤ j → j < n → blankB (f j) = true

theorem trimRight_any (b o n c : Nat) (f : Nat → Int) (w : World) (hn : n ≤ 1048576) (hnc : n ≤ c)
    (hc : ∀ i, i < n → w.cell? ⟨b, o + i, none⟩ = some (.int .u8 (f i))) :
    Calls Try.prog 16 #[.slice (some ⟨b, o, none⟩) n c] w fun e w' => ∃ m, e = .returned (.slice (some ⟨b, o, none⟩) m c) ∧ w' = w ∧ TrimR f n m := by
  go_enter Try.func16, Try.ntmps16
  go_wp2
  go_loop [0] (fun s => ∃ m : Nat, m ≤ n ∧ s = .slice (some ⟨b, o, none⟩) m c ∧ ∀ j, m ≤ j → j < n → blankB (f j) = true) (fun s => lenOf s)
  case atStart => exact ⟨n, Nat.le_refl _, rfl, fun j h1 h2 => by omega⟩
  case round =>
    obtain ⟨m, hm, rfl, hb⟩ := hrel
    have HB := hid hb
    clear hb
    by_cases h0 : m = 0
    · subst h0
      go_wp2
      go_ret
      exact ⟨0, rfl, rfl, by omega, fun h => by omega, HB.out⟩
    · obtain ⟨q, rfl⟩ : ∃ q, m = q + 1 := ⟨m - 1, by omega⟩
      have hcell := hc q (by omega)
      have hfb : 0 < q + 1 := by omega
      by_cases hbl : blankB (f q) = true
      · go_wp2_with (go_at_call 17; refine (isBlank_any _ _).mono ?_; rintro e w' ⟨rfl, rfl⟩)
        go_round
        case rel =>
          refine ⟨q, by omega, rfl, fun j h1 h2 => ?_⟩
          by_cases e : j = q
          · rw [e]; exact hbl
          · exact HB.out j (by omega) h2
        case measure => simp [lenOf]
      · have hbl' : blankB (f q) = false := by simpa using hbl
        clear hbl
        go_wp2_with (go_at_call 17; refine (isBlank_any _ _).mono ?_; rintro e w' ⟨rfl, rfl⟩)
        go_ret
        exact ⟨q + 1, rfl, rfl, hm, fun _ => hbl', HB.out⟩

/-- What trimBlanksLeft leaves: the bytes from place d on. -/
def TrimL (f : Nat → Int) (n d : Nat) : Prop := (d < n → blankB (f d) = false) ∧ ∀ j, j < d → blankB (f j) = true

theorem trimLeft_any (a0 : Option Addr) (b o n c : Nat) (f : Nat → Int) (w : World) (hn : n ≤ 1048576) (hnc : n ≤ c) (ha0 : 0 < n → a0 = some ⟨b, o, none⟩)
    (hc : ∀ i, i < n → w.cell? ⟨b, o + i, none⟩ = some (.int .u8 (f i))) :
    Calls Try.prog 18 #[.slice a0 n c] w fun e w' => ∃ d q a c', e = .returned (.slice a q c') ∧ w' = w ∧ d + q = n ∧ TrimL f n d := by
  go_enter Try.func18, Try.ntmps18
  go_wp2
  go_loop [0] (fun s => ∃ d q a c', d + q = n ∧ q ≤ c' ∧ (0 < q → a = some ⟨b, o + d, none⟩) ∧ s = .slice a q c' ∧ ∀ j, j < d → blankB (f j) = true) (fun s => lenOf s)
  case atStart => exact ⟨0, n, _, c, by omega, by omega, ha0, rfl, fun j h => by omega⟩
  case round =>
    obtain ⟨d, q, a, c', hd, hc', ha, rfl, hb⟩ := hrel
    have HB := hid hb
    clear hb
    by_cases h0 : q = 0
    · subst h0
      have HD := hid hd
      clear hd
      go_wp2
      go_ret
      exact ⟨d, 0, ⟨_, _, rfl⟩, rfl, HD.out, fun h => by have := HD.out; omega, HB.out⟩
    · obtain ⟨q, rfl⟩ : ∃ r, q = r + 1 := ⟨q - 1, by omega⟩
      obtain rfl := ha (by omega)
      have hcell := hc d (by omega)
      have HD := hid hd
      clear ha hd h0
      by_cases hbl : blankB (f d) = true
      · go_wp2_with (go_at_call 17; refine (isBlank_any _ _).mono ?_; rintro e w' ⟨rfl, rfl⟩)
        go_round
        case rel =>
          have hd := HD.out
          refine ⟨d + 1, q, _, _, by omega, ?_, ?_, rfl, fun j hj => ?_⟩
          · omega
          · intro hq
            rw [if_neg (by omega)]
            rfl
          · by_cases e : j = d
            · rw [e]; exact hbl
            · exact HB.out j (by omega)
        case measure => simp [lenOf]
      · have hbl' : blankB (f d) = false := by simpa using hbl
        clear hbl
        go_wp2_with (go_at_call 17; refine (isBlank_any _ _).mono ?_; rintro e w' ⟨rfl, rfl⟩)
        go_ret
        exact ⟨d, q + 1, _, _, rfl, rfl, HD.out, fun _ => hbl', HB.out⟩

end Go.Proofs.Qxb6000991a
