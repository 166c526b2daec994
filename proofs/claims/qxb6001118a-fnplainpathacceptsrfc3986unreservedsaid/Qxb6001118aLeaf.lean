/- The leaves: unreservedOrSlashB1, zzBytes, strings.IndexByte at the five marks, strings.HasPrefix. -/
import Derived.Test.Qxb6001118aRows
import Derived.WalkKit
import Derived.ProofKit
import Derived.Lib.BytesEntry
namespace Go.Proofs.Qxb6001118a
open Go.ChangeShapes Go.WideShapes Go.ChangeAt Go.RowKit
set_option linter.unusedVariables false

theorem hid {p : Prop} (h : p) : Hid p := h

def lowB (c : Int) : Bool := decide (97 ≤ c ∧ c ≤ 122)
def upB (c : Int) : Bool := decide (65 ≤ c ∧ c ≤ 90)
def digB (c : Int) : Bool := decide (48 ≤ c ∧ c ≤ 57)
/-- The five marks. -/
def markB (c : Int) : Bool := decide (c = 45 ∨ c = 46 ∨ c = 95 ∨ c = 126 ∨ c = 47)
def okB (c : Int) : Bool := lowB c || upB c || digB c || markB c

theorem okB_of {c : Int} (h : okB c = true) : (97 ≤ c ∧ c ≤ 122) ∨ (65 ≤ c ∧ c ≤ 90) ∨ (48 ≤ c ∧ c ≤ 57) ∨ (c = 45 ∨ c = 46 ∨ c = 95 ∨ c = 126 ∨ c = 47) := by
  simp only [okB, lowB, upB, digB, markB, Bool.or_eq_true, decide_eq_true_eq] at h
  omega

theorem okB_low {c : Int} (h1 : 97 ≤ c) (h2 : c ≤ 122) : okB c = true := by simp [okB, lowB, h1, h2]
theorem okB_up {c : Int} (h1 : 65 ≤ c) (h2 : c ≤ 90) : okB c = true := by simp [okB, upB, h1, h2]
theorem okB_dig {c : Int} (h1 : 48 ≤ c) (h2 : c ≤ 57) : okB c = true := by simp [okB, digB, h1, h2]
theorem okB_45 {c : Int} (h : (c == 45) = true) : okB c = true := by rw [eq_of_beq h]; decide
theorem okB_46 {c : Int} (h : (c == 46) = true) : okB c = true := by rw [eq_of_beq h]; decide
theorem okB_95 {c : Int} (h : (c == 95) = true) : okB c = true := by rw [eq_of_beq h]; decide
theorem okB_126 {c : Int} (h : (c == 126) = true) : okB c = true := by rw [eq_of_beq h]; decide
theorem okB_47 {c : Int} (h : (c == 47) = true) : okB c = true := by rw [eq_of_beq h]; decide

/-- What the walk of unreservedOrSlashB1 leaves. -/
def UnPost (c : Int) (w : World) (e : Ending) (w' : World) : Prop := w' = w ∧ ∃ r, e = .returned (.bool r) ∧ (r = true → okB c = true)

theorem unres_any (c : Int) (w : World) : Calls Try.prog 14 #[.int .u8 c] w (UnPost c w) := by
  go_enter Try.func14, Try.ntmps14
  go_wp2
  all_goals go_ret
  all_goals first
    | exact ⟨rfl, false, rfl, fun h => by cases h⟩
    | exact ⟨rfl, true, rfl, fun _ => okB_low ‹97 ≤ c› ‹c ≤ 122›⟩
    | exact ⟨rfl, true, rfl, fun _ => okB_up ‹65 ≤ c› ‹c ≤ 90›⟩
    | exact ⟨rfl, true, rfl, fun _ => okB_dig ‹48 ≤ c› ‹c ≤ 57›⟩
    | exact ⟨rfl, true, rfl, fun _ => okB_45 ‹(c == 45) = true›⟩
    | exact ⟨rfl, true, rfl, fun _ => okB_46 ‹(c == 46) = true›⟩
    | exact ⟨rfl, true, rfl, fun _ => okB_95 ‹(c == 95) = true›⟩
    | exact ⟨rfl, true, rfl, fun _ => okB_126 ‹(c == 126) = true›⟩
    | exact ⟨rfl, true, rfl, fun _ => okB_47 ‹(c == 47) = true›⟩

theorem zzBytes_yes (s : ByteArray) (w : World) (h : s.size ≤ 1048576) :
    Calls Try.prog 13 #[.string s] w fun e w' => e = .returned (.bool true) ∧ w' = w := by
  go_enter Try.func13, Try.ntmps13
  go_wp2
  go_ret
  exact ⟨rfl, rfl⟩

theorem zzBytes_no (s : ByteArray) (w : World) (h : 1048576 < s.size) :
    Calls Try.prog 13 #[.string s] w fun e w' => e = .returned (.bool false) ∧ w' = w := by
  go_enter Try.func13, Try.ntmps13
  go_wp2
  go_ret
  exact ⟨rfl, rfl⟩

def IxPost (w : World) (e : Ending) (w' : World) : Prop := w' = w ∧ ∃ r : Int, e = .returned (.int .i64 r) ∧ 0 ≤ r

set_option maxRecDepth 100000 in
theorem lite_ix (c : Int) (w : World) (hc : c = 45 ∨ c = 46 ∨ c = 95 ∨ c = 126 ∨ c = 47) :
    Calls Try.prog 29 #[.string ⟨#[45, 46, 95, 126, 47]⟩, .int .u8 c] w (IxPost w) := by
  have H : Hid (0 ≤ Lib.indexByte [45, 46, 95, 126, 47] c.toNat.toUInt8) := by
    refine hid ?_
    rcases hc with rfl | rfl | rfl | rfl | rfl <;> decide
  clear hc
  go_enter Try.func29, Try.ntmps29
  go_wp2
  rw [run_callFunc_extern Try.func30 (by kernel_rfl) (by kernel_rfl) (by kernel_rfl) (e := Extern.BytealgIndexByte.indexByte) (by kernel_rfl), Lib.run_indexByteString ⟨#[45, 46, 95, 126, 47]⟩ c w]
  simp only [Result.andThen]
  rw [Oper.upon_value]
  go_wp2
  go_ret
  exact ⟨rfl, _, rfl, H.out⟩

theorem str_ix (c : Int) (w : World) (hc : c = 45 ∨ c = 46 ∨ c = 95 ∨ c = 126 ∨ c = 47) :
    Calls Try.prog 27 #[.string ⟨#[45, 46, 95, 126, 47]⟩, .int .u8 c] w (IxPost w) := by
  have HC := hid hc
  clear hc
  go_enter Try.func27, Try.ntmps27
  go_wp2_with fail
  refine (lite_ix c w HC.out).mono ?_
  rintro e _ ⟨rfl, r, rfl, hr⟩
  go_wp2_with fail
  go_ret
  exact ⟨rfl, r, rfl, hr⟩

theorem lite_prefix (t : ByteArray) (w : World) (ht : 1 ≤ t.size) (h0 : t.extract 0 1 = ⟨#[47]⟩) (hm : t.size ≤ 2097152) :
    Calls Try.prog 28 #[.string t, .string ⟨#[47]⟩] w fun e w' => e = .returned (.bool true) ∧ w' = w := by
  go_enter Try.func28, Try.ntmps28
  go_wp2_with fail
  go_ret
  exact ⟨rfl, rfl⟩

theorem str_prefix (t : ByteArray) (w : World) (ht : 1 ≤ t.size) (h0 : t.extract 0 1 = ⟨#[47]⟩) (hm : t.size ≤ 2097152) :
    Calls Try.prog 26 #[.string t, .string ⟨#[47]⟩] w fun e w' => e = .returned (.bool true) ∧ w' = w := by
  have H0 := hid h0
  clear h0
  go_enter Try.func26, Try.ntmps26
  go_wp2_with fail
  refine (lite_prefix t w ht H0.out hm).mono ?_
  rintro e _ ⟨rfl, rfl⟩
  go_wp2_with fail
  go_ret
  exact ⟨rfl, rfl⟩

end Go.Proofs.Qxb6001118a
