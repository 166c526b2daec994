/- wholeTag at a closing tag and at an open tag. -/
import Derived.Test.Qxb6001283aLeaf
namespace Go.Proofs.Qxb6001283a
open Go.ChangeShapes Go.WideShapes Go.ChangeAt Go.RowKit
set_option linter.unusedVariables false

/-- '</', a name up to m, a space, a tab, '>'. -/
structure CloseTag (f : Nat → Int) (n m : Nat) : Prop where
  len : m + 2 < n
  three : 3 ≤ m
  slash : f 1 = 47
  first : letB (f 2) = true
  name : ∀ i, 3 ≤ i → i < m → nmB (f i) = true
  sp : f m = 32
  tab : f (m + 1) = 9
  gt : f (m + 2) = 62

def IntPost (w : World) (q : Nat) (e : Ending) (w' : World) : Prop := e = .returned (.int .i64 q) ∧ w' = w

theorem nmB_parts {c : Int} (h : nmB c = true) (ha : alnB c = false) : (c == 45) = true := by simpa [nmB, ha] using h

set_option maxHeartbeats 2000000 in
set_option maxRecDepth 100000 in
theorem close_any (b o n c m : Nat) (f : Nat → Int) (w : World) (hn : n ≤ 2097152) (hf : ∀ i, i < n → 0 ≤ f i ∧ f i < 256) (h : CloseTag f n m)
    (hc : ∀ i, i < n → w.cell? ⟨b, o + i, none⟩ = some (.int .u8 (f i))) :
    Calls Try.prog 31 #[.slice (some ⟨b, o, none⟩) n c] w (IntPost w (m + 3)) := by
  have hlen := h.len
  have hthree := h.three
  have H := hid h
  have HF := hid hf
  have HC := hid hc
  have h1 := hc 1 (by omega)
  have h2 := hc 2 (by omega)
  have t1 : (f 1 == 47) = true := by rw [h.slash]; decide
  have t2 : ((2 : Int) == n) = false := by rw [beq_eq_false_iff_ne]; omega
  have t3 := h.first
  clear h hf hc
  go_enter Try.func31, Try.ntmps31
  go_wp2_with fail
  refine (isLetter_any _ _ (HF.out 2 (by omega))).mono ?_
  rintro e _ ⟨rfl, rfl⟩
  go_wp2_with fail
  go_loop [3] (fun x => ∃ t : Nat, 3 ≤ t ∧ t ≤ m ∧ x = .int .i64 t) (fun x => n - (intOf x).toNat)
  case atStart => exact ⟨3, Nat.le_refl _, hthree, rfl⟩
  case round =>
    obtain ⟨t, ht1, ht2, rfl⟩ := hrel
    have hcell := HC.out t (by omega)
    clear h1 h2 t1 t2 t3
    by_cases htm : t < m
    · have hnm := H.out.name t ht1 htm
      by_cases ha : alnB (f t) = true
      · clear hnm
        go_wp2_with fail
        refine (isAlnum_any _ _ (HF.out t (by omega))).mono ?_
        rintro e _ ⟨rfl, rfl⟩
        go_wp2_with fail
        go_round
        case rel => exact ⟨t + 1, by omega, by omega, by go_num⟩
        case measure => simp [intOf]; omega
      · have ha' : alnB (f t) = false := by simpa using ha
        have h45 := nmB_parts hnm ha'
        clear hnm ha
        go_wp2_with fail
        refine (isAlnum_any _ _ (HF.out t (by omega))).mono ?_
        rintro e _ ⟨rfl, rfl⟩
        go_wp2_with fail
        go_round
        case rel => exact ⟨t + 1, by omega, by omega, by go_num⟩
        case measure => simp [intOf]; omega
    · have htm' : t = m := by omega
      subst htm'
      have ha : alnB (f t) = false := by rw [H.out.sp]; decide
      have h45 : (f t == 45) = false := by rw [H.out.sp]; decide
      have hg : (f (t + 2) == 62) = true := by rw [H.out.gt]; decide
      have hcg := HC.out (t + 2) (by omega)
      go_wp2_with fail
      refine (isAlnum_any _ _ (HF.out t (by omega))).mono ?_
      rintro e _ ⟨rfl, rfl⟩
      go_wp2_with fail
      refine (skip_any b o n c t (t + 2) f _ hn (by omega) (by omega) (fun u h1 h2 => ?_) (by rw [H.out.gt]; decide) HC.out).mono ?_
      · by_cases e : u = t
        · left; rw [e]; exact H.out.sp
        · right; rw [show u = t + 1 from by omega]; exact H.out.tab
      · rintro e _ ⟨rfl, rfl⟩
        go_wp2_with fail
        go_ret
        exact ⟨ret_int (by omega), rfl⟩

end Go.Proofs.Qxb6001283a
