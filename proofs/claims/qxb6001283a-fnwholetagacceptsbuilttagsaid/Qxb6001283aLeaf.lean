/- The leaves: isLetter, isAlnum, zzNameFirst, zzNameByte, IndexByte. -/
import Derived.Test.Qxb6001283aRows
import Derived.WalkKit
import Derived.ProofKit
import Derived.Lib.BytesEntry
namespace Go.Proofs.Qxb6001283a
open Go.ChangeShapes Go.WideShapes Go.ChangeAt Go.RowKit
set_option linter.unusedVariables false

theorem hid {p : Prop} (h : p) : Hid p := h

/-- A letter of ASCII. -/
def letB (c : Int) : Bool := decide (65 ≤ c ∧ c ≤ 90) || decide (97 ≤ c ∧ c ≤ 122)
def alnB (c : Int) : Bool := letB c || decide (48 ≤ c ∧ c ≤ 57)

theorem or32_all : ∀ n : Fin 256, (decide (97 ≤ bits BinOp.or IntKind.u8 (n.val : Int) 32) && decide (bits BinOp.or IntKind.u8 (n.val : Int) 32 ≤ 122)) = letB (n.val : Int) := by decide +kernel

theorem or32 (c : Int) (h0 : 0 ≤ c) (h1 : c < 256) : (decide (97 ≤ bits BinOp.or IntKind.u8 c 32) && decide (bits BinOp.or IntKind.u8 c 32 ≤ 122)) = letB c := by
  obtain ⟨n, rfl⟩ := Int.eq_ofNat_of_zero_le h0
  exact or32_all ⟨n, by omega⟩

theorem isLetter_any (c : Int) (w : World) (h : 0 ≤ c ∧ c < 256) :
    Calls Try.prog 34 #[.int .u8 c] w fun e w' => e = .returned (.bool (letB c)) ∧ w' = w := by
  have H := hid (or32 c h.1 h.2)
  clear h
  go_enter Try.func34, Try.ntmps34
  go_wp2
  · go_ret
    refine ⟨?_, rfl⟩
    rw [← H.out, decide_eq_true (by assumption : 97 ≤ bits BinOp.or IntKind.u8 c 32), Bool.true_and]
    rfl
  · go_ret
    refine ⟨?_, rfl⟩
    have hlt : bits BinOp.or IntKind.u8 c 32 < 97 := by assumption
    rw [← H.out, decide_eq_false (by omega : ¬ 97 ≤ bits BinOp.or IntKind.u8 c 32), Bool.false_and]
    rfl

theorem isAlnum_any (c : Int) (w : World) (h : 0 ≤ c ∧ c < 256) :
    Calls Try.prog 35 #[.int .u8 c] w fun e w' => e = .returned (.bool (alnB c)) ∧ w' = w := by
  have HH := hid h
  clear h
  by_cases hl : letB c = true
  · have ha : Hid (alnB c = true) := hid (by simp [alnB, hl])
    go_enter Try.func35, Try.ntmps35
    go_wp2_with fail
    refine (isLetter_any c w HH.out).mono ?_
    rintro e _ ⟨rfl, rfl⟩
    go_wp2_with fail
    go_ret
    exact ⟨by rw [ha.out]; rfl, rfl⟩
  · have hl' : letB c = false := by simpa using hl
    by_cases hd : 48 ≤ c ∧ c ≤ 57
    · have ha : Hid (alnB c = true) := hid (by simp [alnB, hd])
      obtain ⟨hd1, hd2⟩ := hd
      clear hl
      go_enter Try.func35, Try.ntmps35
      go_wp2_with fail
      refine (isLetter_any c w HH.out).mono ?_
      rintro e _ ⟨rfl, rfl⟩
      go_wp2_with fail
      go_ret
      exact ⟨by rw [ha.out]; rfl, rfl⟩
    · have ha : Hid (alnB c = false) := hid (by simp only [alnB, hl', Bool.false_or]; exact decide_eq_false hd)
      clear hl
      by_cases hd1 : 48 ≤ c
      · have hd2 : decide (c ≤ 57) = false := decide_eq_false (by omega)
        clear hd
        go_enter Try.func35, Try.ntmps35
        go_wp2_with fail
        refine (isLetter_any c w HH.out).mono ?_
        rintro e _ ⟨rfl, rfl⟩
        go_wp2_with fail
        go_ret
        exact ⟨by rw [ha.out]; rfl, rfl⟩
      · clear hd
        go_enter Try.func35, Try.ntmps35
        go_wp2_with fail
        refine (isLetter_any c w HH.out).mono ?_
        rintro e _ ⟨rfl, rfl⟩
        go_wp2_with fail
        go_ret
        exact ⟨by rw [ha.out]; rfl, rfl⟩

/-- A byte that may follow a name's first. -/
def nmB (c : Int) : Bool := alnB c || (c == 45)

def FirstPost (w : World) (e : Ending) (w' : World) : Prop := w' = w ∧ ∃ x : Int, e = .returned (.int .u8 x) ∧ 0 ≤ x ∧ x < 256 ∧ letB x = true
def BytePost (w : World) (e : Ending) (w' : World) : Prop := w' = w ∧ ∃ x : Int, e = .returned (.int .u8 x) ∧ 0 ≤ x ∧ x < 256 ∧ nmB x = true

theorem letB_up {c : Int} (h1 : 65 ≤ c) (h2 : c ≤ 90) : letB c = true := by simp [letB, h1, h2]
theorem letB_low {c : Int} (h1 : 97 ≤ c) (h2 : c ≤ 122) : letB c = true := by simp [letB, h1, h2]
theorem nmB_let {c : Int} (h : letB c = true) : nmB c = true := by simp [nmB, alnB, h]
theorem nmB_dig {c : Int} (h1 : 48 ≤ c) (h2 : c ≤ 57) : nmB c = true := by simp [nmB, alnB, h1, h2]

theorem nameFirst_any (c : Int) (w : World) (h : 0 ≤ c ∧ c < 256) : Calls Try.prog 23 #[.int .u8 c] w (FirstPost w) := by
  obtain ⟨h0, h1⟩ := h
  go_enter Try.func23, Try.ntmps23
  go_wp2
  · go_ret
    exact ⟨rfl, _, rfl, by omega, by omega, letB_up (by omega) (by omega)⟩
  · go_ret
    exact ⟨rfl, _, rfl, by omega, by omega, letB_low (by omega) (by omega)⟩

theorem nameByte_any (c : Int) (w : World) (h : 0 ≤ c ∧ c < 256) : Calls Try.prog 24 #[.int .u8 c] w (BytePost w) := by
  obtain ⟨h0, h1⟩ := h
  go_enter Try.func24, Try.ntmps24
  go_wp2
  all_goals go_ret
  · exact ⟨rfl, _, rfl, by omega, by omega, nmB_let (letB_low (by omega) (by omega))⟩
  · exact ⟨rfl, _, rfl, by omega, by omega, nmB_let (letB_up (by omega) (by omega))⟩
  · exact ⟨rfl, _, rfl, by omega, by omega, nmB_dig (by omega) (by omega)⟩
  · exact ⟨rfl, _, rfl, by omega, by omega, by decide⟩

set_option maxRecDepth 100000 in
theorem lite_ix (w : World) :
    Calls Try.prog 42 #[.string ⟨#[95, 46, 58, 45]⟩, .int .u8 61] w fun e w' => e = .returned (.int .i64 (-1)) ∧ w' = w := by
  have H : Hid (Lib.indexByte [95, 46, 58, 45] (61 : Int).toNat.toUInt8 = -1) := hid (by decide)
  go_enter Try.func42, Try.ntmps42
  go_wp2
  rw [run_callFunc_extern Try.func44 (by kernel_rfl) (by kernel_rfl) (by kernel_rfl) (e := Extern.BytealgIndexByte.indexByte) (by kernel_rfl), Lib.run_indexByteString ⟨#[95, 46, 58, 45]⟩ 61 w]
  simp only [Result.andThen]
  rw [Oper.upon_value]
  go_wp2
  go_ret
  refine ⟨?_, rfl⟩
  have := H.out
  change Ending.returned (.int .i64 (Lib.indexByte [95, 46, 58, 45] (61 : Int).toNat.toUInt8)) = _
  rw [this]

theorem str_ix (w : World) :
    Calls Try.prog 37 #[.string ⟨#[95, 46, 58, 45]⟩, .int .u8 61] w fun e w' => e = .returned (.int .i64 (-1)) ∧ w' = w := by
  go_enter Try.func37, Try.ntmps37
  go_wp2_with fail
  refine (lite_ix w).mono ?_
  rintro e _ ⟨rfl, rfl⟩
  go_wp2_with fail
  go_ret
  exact ⟨rfl, rfl⟩

/-- The first n bytes told by f. -/
def rowOf (f : Nat → Int) (n : Nat) : List Int := (List.range n).map f
theorem rowOf_length (f : Nat → Int) (n : Nat) : (rowOf f n).length = n := by simp [rowOf]
theorem rowOf_get (f : Nat → Int) (n i : Nat) (h : i < n) : (rowOf f n).getD i 0 = f i := by
  simp [rowOf, List.getD_eq_getElem?_getD, h]

theorem byte_eq (x q : Int) (h0 : 0 ≤ x) (h1 : x < 256) (g0 : 0 ≤ q) (g1 : q < 256) : (UInt8.ofNat x.toNat == q.toNat.toUInt8) = decide (x = q) := by
  obtain ⟨n, rfl⟩ := Int.eq_ofNat_of_zero_le h0
  obtain ⟨m, rfl⟩ := Int.eq_ofNat_of_zero_le g0
  rw [Bool.eq_iff_iff]
  simp only [beq_iff_eq, decide_eq_true_eq, ← UInt8.toNat_inj]
  simp
  omega

/-- The first byte q stands at place k: that is what is answered. -/
theorem firstAt (q : Int) (g0 : 0 ≤ q) (g1 : q < 256) (k : Nat) : ∀ (n : Nat) (f : Nat → Int), k < n → (∀ i, i < n → 0 ≤ f i ∧ f i < 256) → f k = q → (∀ i, i < k → f i ≠ q) →
    Lib.indexByte (Lib.bytesOf (rowOf f n)) q.toNat.toUInt8 = k := by
  induction k with
  | zero =>
    intro n f hk hf h0 _
    obtain ⟨n, rfl⟩ : ∃ m, n = m + 1 := ⟨n - 1, by omega⟩
    have e : rowOf f (n + 1) = f 0 :: rowOf (fun i => f (i + 1)) n := by
      simp only [rowOf, List.range_succ_eq_map, List.map_cons, List.map_map]; rfl
    have hb := hf 0 (by omega)
    rw [e]
    simp only [Lib.bytesOf, List.map_cons, Lib.indexByte]
    rw [byte_eq _ _ hb.1 hb.2 g0 g1]
    simp [h0]
  | succ k ih =>
    intro n f hk hf h0 ha
    obtain ⟨n, rfl⟩ : ∃ m, n = m + 1 := ⟨n - 1, by omega⟩
    have e : rowOf f (n + 1) = f 0 :: rowOf (fun i => f (i + 1)) n := by
      simp only [rowOf, List.range_succ_eq_map, List.map_cons, List.map_map]; rfl
    have hb := hf 0 (by omega)
    have ih' := ih n (fun i => f (i + 1)) (by omega) (fun i hi => hf (i + 1) (by omega)) h0 (fun i hi => ha (i + 1) (by omega))
    have hz : f 0 ≠ q := ha 0 (by omega)
    rw [e]
    simp only [Lib.bytesOf, List.map_cons, Lib.indexByte]
    rw [byte_eq _ _ hb.1 hb.2 g0 g1]
    simp only [hz, decide_false]
    change (if Lib.indexByte (Lib.bytesOf (rowOf (fun i => f (i + 1)) n)) q.toNat.toUInt8 == -1 then -1 else Lib.indexByte (Lib.bytesOf (rowOf (fun i => f (i + 1)) n)) q.toNat.toUInt8 + 1) = _
    rw [ih', if_neg (by simp)]
    omega

set_option maxRecDepth 100000 in
theorem indexByte_at (b o n c k : Nat) (q : Int) (f : Nat → Int) (w : World) (g0 : 0 ≤ q) (g1 : q < 256) (hk : k < n) (hf : ∀ i, i < n → 0 ≤ f i ∧ f i < 256) (hf0 : f k = q) (ha : ∀ i, i < k → f i ≠ q)
    (hc : ∀ i, i < n → w.cell? ⟨b, o + i, none⟩ = some (.int .u8 (f i))) :
    Calls Try.prog 38 #[.slice (some ⟨b, o, none⟩) n c, .int .u8 q] w fun e w' => e = .returned (.int .i64 k) ∧ w' = w := by
  have H := hid (firstAt q g0 g1 k n f hk hf hf0 ha)
  have hc' : ∀ i, i < n → w.cell? ⟨b, o + i, none⟩ = some (.int .u8 ((rowOf f n).getD i 0)) := fun i hi => by rw [rowOf_get f n i hi]; exact hc i hi
  clear hf hf0 ha
  go_enter Try.func38, Try.ntmps38
  go_wp2
  rw [run_callFunc_extern Try.func43 (by kernel_rfl) (by kernel_rfl) (by kernel_rfl) (e := Extern.BytealgIndexByte.indexByte) (by kernel_rfl), Lib.run_indexByteSlice w b o n c (rowOf f n) (rowOf_length f n) hc' q]
  simp only [Result.andThen]
  rw [Oper.upon_value]
  go_wp2
  go_ret
  refine ⟨?_, rfl⟩
  have := H.out
  change Ending.returned (.int .i64 (Lib.indexByte (Lib.bytesOf (rowOf f n)) q.toNat.toUInt8)) = _
  rw [this]

/-- White space within a tag. -/
def spB (c : Int) : Bool := (c == 32) || (c == 9) || (c == 11) || (c == 12)

theorem ret_int {k : IntKind} {a b : Int} (h : a = b) : Ending.returned (.int k a) = .returned (.int k b) := by rw [h]

theorem skip_any (b o n c i j : Nat) (f : Nat → Int) (w : World) (hn : n ≤ 2097152) (hij : i ≤ j) (hj : j < n) (hsp : ∀ t, i ≤ t → t < j → f t = 32 ∨ f t = 9) (hno : spB (f j) = false)
    (hc : ∀ i, i < n → w.cell? ⟨b, o + i, none⟩ = some (.int .u8 (f i))) :
    Calls Try.prog 36 #[.slice (some ⟨b, o, none⟩) n c, .int .i64 i] w fun e w' => e = .returned (.int .i64 j) ∧ w' = w := by
  have HSP := hid hsp
  have HNO := hid hno
  have HC := hid hc
  clear hsp hc hno
  go_enter Try.func36, Try.ntmps36
  go_wp2
  go_loop [1] (fun x => ∃ t : Nat, i ≤ t ∧ t ≤ j ∧ x = .int .i64 t) (fun x => n - (intOf x).toNat)
  case atStart => exact ⟨i, Nat.le_refl _, hij, rfl⟩
  case round =>
    obtain ⟨t, ht1, ht2, rfl⟩ := hrel
    have hcell := HC.out t (by omega)
    by_cases htj : t < j
    · rcases HSP.out t ht1 htj with h | h
      case' inl =>
        have h1 : (f t == 32) = true := by rw [h]; decide
        clear h
        go_wp2_with fail
      case' inr =>
        have h1 : (f t == 32) = false := by rw [h]; decide
        have h2 : (f t == 9) = true := by rw [h]; decide
        clear h
        go_wp2_with fail
      all_goals
        go_round
        case' rel => exact ⟨t + 1, by omega, by omega, by go_num⟩
        case' measure => simp [intOf]; omega
    · obtain rfl : t = j := by omega
      have hno := HNO.out
      simp only [spB, Bool.or_eq_false_iff] at hno
      obtain ⟨⟨⟨h1, h2⟩, h3⟩, h4⟩ := hno
      go_wp2_with fail
      go_ret
      exact ⟨rfl, rfl⟩

end Go.Proofs.Qxb6001283a
