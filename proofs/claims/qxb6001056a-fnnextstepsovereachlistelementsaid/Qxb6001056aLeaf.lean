/- The leaves: isDigit, zzIsDigit, bytes.IndexByte, stringBody. -/
import Derived.Test.Qxb6001056aRows
import Derived.Test.Qxb6001056aPlain
import Derived.WalkKit
import Derived.ProofKit
import Derived.Lib.BytesEntry
namespace Go.Proofs.Qxb6001056a
open Go.ChangeShapes Go.WideShapes Go.ChangeAt Go.RowKit
set_option linter.unusedVariables false

theorem hid {p : Prop} (h : p) : Hid p := h

theorem isDigit_any (c : Int) (w : World) :
    Calls Try.prog 25 #[.int .u8 c] w fun e w' => e = .returned (.bool (dig c)) ∧ w' = w := by
  by_cases h1 : 48 ≤ c
  · by_cases h2 : c ≤ 57
    · have hd : dig c = true := dig_iff.2 ⟨h1, h2⟩
      go_enter Try.func25, Try.ntmps25
      go_wp2
      go_ret
      exact ⟨by first | rfl | (rw [hd]; rfl), rfl⟩
    · have hd : dig c = false := dig_no.2 (by omega)
      go_enter Try.func25, Try.ntmps25
      go_wp2
      go_ret
      exact ⟨by first | rfl | (rw [hd]; rfl), rfl⟩
  · have hd : dig c = false := dig_no.2 (by omega)
    go_enter Try.func25, Try.ntmps25
    go_wp2
    go_ret
    exact ⟨by first | rfl | (rw [hd]; rfl), rfl⟩

theorem zzIsDigit_any (c : Int) (w : World) :
    Calls Try.prog 23 #[.int .u8 c] w fun e w' => e = .returned (.bool (dig c)) ∧ w' = w := by
  by_cases h1 : 48 ≤ c
  · by_cases h2 : c ≤ 57
    · have hd : dig c = true := dig_iff.2 ⟨h1, h2⟩
      go_enter Try.func23, Try.ntmps23
      go_wp2
      go_ret
      exact ⟨by first | rfl | (rw [hd]; rfl), rfl⟩
    · have hd : dig c = false := dig_no.2 (by omega)
      go_enter Try.func23, Try.ntmps23
      go_wp2
      go_ret
      exact ⟨by first | rfl | (rw [hd]; rfl), rfl⟩
  · have hd : dig c = false := dig_no.2 (by omega)
    go_enter Try.func23, Try.ntmps23
    go_wp2
    go_ret
    exact ⟨by first | rfl | (rw [hd]; rfl), rfl⟩

/-- The first n bytes told by f. -/
def rowOf (f : Nat → Int) (n : Nat) : List Int := (List.range n).map f
theorem rowOf_length (f : Nat → Int) (n : Nat) : (rowOf f n).length = n := by simp [rowOf]
theorem rowOf_get (f : Nat → Int) (n i : Nat) (h : i < n) : (rowOf f n).getD i 0 = f i := by
  simp [rowOf, List.getD_eq_getElem?_getD, h]

theorem byte_eq (x : Int) (h0 : 0 ≤ x) (h1 : x < 256) : (UInt8.ofNat x.toNat == (101 : UInt8)) = decide (x = 101) := by
  obtain ⟨n, rfl⟩ := Int.eq_ofNat_of_zero_le h0
  rw [Bool.eq_iff_iff]
  simp only [beq_iff_eq, decide_eq_true_eq, ← UInt8.toNat_inj]
  simp
  omega

/-- The first byte 101 stands at place k: that is what is answered. -/
theorem firstAt (k : Nat) : ∀ (n : Nat) (f : Nat → Int), k < n → (∀ i, i < n → 0 ≤ f i ∧ f i < 256) → f k = 101 → (∀ i, i < k → f i ≠ 101) →
    Lib.indexByte (Lib.bytesOf (rowOf f n)) 101 = k := by
  induction k with
  | zero =>
    intro n f hk hf h0 _
    obtain ⟨n, rfl⟩ : ∃ m, n = m + 1 := ⟨n - 1, by omega⟩
    have e : rowOf f (n + 1) = f 0 :: rowOf (fun i => f (i + 1)) n := by
      simp only [rowOf, List.range_succ_eq_map, List.map_cons, List.map_map]; rfl
    have hb := hf 0 (by omega)
    rw [e]
    simp only [Lib.bytesOf, List.map_cons, Lib.indexByte]
    rw [byte_eq _ hb.1 hb.2]
    simp [h0]
  | succ k ih =>
    intro n f hk hf h0 ha
    obtain ⟨n, rfl⟩ : ∃ m, n = m + 1 := ⟨n - 1, by omega⟩
    have e : rowOf f (n + 1) = f 0 :: rowOf (fun i => f (i + 1)) n := by
      simp only [rowOf, List.range_succ_eq_map, List.map_cons, List.map_map]; rfl
    have hb := hf 0 (by omega)
    have ih' := ih n (fun i => f (i + 1)) (by omega) (fun i hi => hf (i + 1) (by omega)) h0 (fun i hi => ha (i + 1) (by omega))
    have hz : f 0 ≠ 101 := ha 0 (by omega)
    rw [e]
    simp only [Lib.bytesOf, List.map_cons, Lib.indexByte]
    rw [byte_eq _ hb.1 hb.2]
    simp only [hz, decide_false]
    change (if Lib.indexByte (Lib.bytesOf (rowOf (fun i => f (i + 1)) n)) 101 == -1 then -1 else Lib.indexByte (Lib.bytesOf (rowOf (fun i => f (i + 1)) n)) 101 + 1) = _
    rw [ih', if_neg (by simp)]
    omega

set_option maxRecDepth 100000 in
theorem indexByte_at (b o n c k : Nat) (f : Nat → Int) (w : World) (hk : k < n) (hf : ∀ i, i < n → 0 ≤ f i ∧ f i < 256) (hf0 : f k = 101) (ha : ∀ i, i < k → f i ≠ 101)
    (hc : ∀ i, i < n → w.cell? ⟨b, o + i, none⟩ = some (.int .u8 (f i))) :
    Calls Try.prog 24 #[.slice (some ⟨b, o, none⟩) n c, .int .u8 101] w fun e w' => e = .returned (.int .i64 k) ∧ w' = w := by
  have H := hid (firstAt k n f hk hf hf0 ha)
  have hc' : ∀ i, i < n → w.cell? ⟨b, o + i, none⟩ = some (.int .u8 ((rowOf f n).getD i 0)) := fun i hi => by rw [rowOf_get f n i hi]; exact hc i hi
  clear hf hf0 ha
  go_enter Try.func24, Try.ntmps24
  go_wp2
  rw [run_callFunc_extern Try.func26 (by kernel_rfl) (by kernel_rfl) (by kernel_rfl) (e := Extern.BytealgIndexByte.indexByte) (by kernel_rfl), Lib.run_indexByteSlice w b o n c (rowOf f n) (rowOf_length f n) hc' 101]
  simp only [Result.andThen]
  rw [Oper.upon_value]
  go_wp2
  go_ret
  refine ⟨?_, rfl⟩
  have := H.out
  change Ending.returned (.int .i64 (Lib.indexByte (Lib.bytesOf (rowOf f n)) 101)) = _
  rw [this]

theorem retE {s x x' : Int} (h : x = x') : Ending.returned (.tuple #[.int .i64 s, .int .i64 x, .nilIface]) = .returned (.tuple #[.int .i64 s, .int .i64 x', .nilIface]) := by rw [h]

theorem strBody_any (b o n c p k : Nat) (f : Nat → Int) (w : World) (hn : n ≤ 2097152) (hs : StrEnd f n p k)
    (hc : ∀ i, i < n → w.cell? ⟨b, o + i, none⟩ = some (.int .u8 (f i))) :
    Calls Try.prog 22 #[.slice (some ⟨b, o, none⟩) n c, .int .i64 p] w fun e w' => ∃ s : Int, e = .returned (.tuple #[.int .i64 s, .int .i64 (p + k + 1 + (numTo f p k).toNat : Nat), .nilIface]) ∧ w' = w := by
  obtain ⟨hk, hd, hcol, hnum, hend⟩ := hs
  have HD := hid hd
  have HNUM := hid hnum
  have HCOL := hid hcol
  have HC := hid hc
  clear hd hnum hc hcol
  go_enter Try.func22, Try.ntmps22
  go_wp2
  go_loop [7, 8] (fun x i => ∃ t : Nat, t ≤ k ∧ x = .int .i64 (numTo f p t) ∧ i = .int .i64 (p + t)) (fun _ i => n - (intOf i).toNat)
  case atStart => exact ⟨0, Nat.zero_le _, rfl, by go_num⟩
  case round =>
    obtain ⟨t, ht, rfl, rfl⟩ := hrel
    have hcell := HC.out (p + t) (by omega)
    by_cases htk : t < k
    · have hdt := HD.out t htk
      have hdr := dig_iff.1 hdt
      have hn1 := numTo_nonneg f p t (fun t' ht' => HD.out t' (by omega))
      have hn2 := HNUM.out t (by omega)
      have hn3 := HNUM.out (t + 1) (by omega)
      simp only [numTo] at hn3
      go_wp2_with fail
      refine (isDigit_any _ _).mono ?_
      rintro e _ ⟨rfl, rfl⟩
      go_wp2_with fail
      go_round
      case rel => exact ⟨t + 1, by omega, by simp only [numTo], by go_num⟩
      case measure => simp [intOf]; omega
    · obtain rfl : t = k := by omega
      have hdt : dig (f (p + t)) = false := by rw [HCOL.out]; decide
      have hn1 := numTo_nonneg f p t (fun t' ht' => HD.out t' (by omega))
      have hcv : (f (p + t) != 58) = false := by rw [HCOL.out]; decide
      go_wp2_with fail
      refine (isDigit_any _ _).mono ?_
      rintro e _ ⟨rfl, rfl⟩
      go_wp2_with fail
      go_ret3
      exact ⟨_, retE (by omega), rfl⟩

end Go.Proofs.Qxb6001056a
