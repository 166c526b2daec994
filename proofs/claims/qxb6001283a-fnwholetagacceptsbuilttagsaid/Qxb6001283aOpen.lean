/- wholeTag at an open tag. -/
import Derived.Test.Qxb6001283aTag
namespace Go.Proofs.Qxb6001283a
open Go.ChangeShapes Go.WideShapes Go.ChangeAt Go.RowKit
set_option linter.unusedVariables false

/-- '<', a name up to m, ' x=', a quote, v bytes that are no such quote, the quote, maybe '/', '>': e bytes in all. -/
structure OpenTag (f : Nat → Int) (n m v : Nat) (q : Int) (e : Nat) : Prop where
  two : 2 ≤ m
  first : letB (f 1) = true
  name : ∀ i, 2 ≤ i → i < m → nmB (f i) = true
  sp : f m = 32
  x : f (m + 1) = 120
  eq : f (m + 2) = 61
  quote : q = 34 ∨ q = 39
  q1 : f (m + 3) = q
  val : ∀ i, m + 4 ≤ i → i < m + 4 + v → f i ≠ q
  q2 : f (m + 4 + v) = q
  fin : (f (m + 5 + v) = 62 ∧ e = m + 6 + v) ∨ (f (m + 5 + v) = 47 ∧ f (m + 6 + v) = 62 ∧ e = m + 7 + v)
  len : e ≤ n

theorem skip_at (b o n c i j : Nat) (p : Int) (f : Nat → Int) (w : World) (hn : n ≤ 2097152) (hp : p = i) (hij : i ≤ j) (hj : j < n) (hsp : ∀ t, i ≤ t → t < j → f t = 32 ∨ f t = 9) (hno : spB (f j) = false)
    (hc : ∀ i, i < n → w.cell? ⟨b, o + i, none⟩ = some (.int .u8 (f i))) :
    Calls Try.prog 36 #[.slice (some ⟨b, o, none⟩) n c, .int .i64 p] w fun e w' => e = .returned (.int .i64 j) ∧ w' = w := by
  subst hp
  exact skip_any b o n c i j f w hn hij hj hsp hno hc

theorem str_at (x : Int) (h : x = 61) (w : World) :
    Calls Try.prog 37 #[.string ⟨#[95, 46, 58, 45]⟩, .int .u8 x] w fun e w' => e = .returned (.int .i64 (-1)) ∧ w' = w := by
  subst h
  exact str_ix w

set_option maxHeartbeats 4000000 in
set_option maxRecDepth 100000 in
theorem open_any (b o n c m v : Nat) (q : Int) (e0 : Nat) (f : Nat → Int) (w : World) (hn : n ≤ 2097152) (hnc : n ≤ c) (hf : ∀ i, i < n → 0 ≤ f i ∧ f i < 256) (h : OpenTag f n m v q e0)
    (hc : ∀ i, i < n → w.cell? ⟨b, o + i, none⟩ = some (.int .u8 (f i))) :
    Calls Try.prog 31 #[.slice (some ⟨b, o, none⟩) n c] w (IntPost w e0) := by
  have hlen : m + 6 + v ≤ n := by
    have := h.len
    rcases h.fin with ⟨_, h⟩ | ⟨_, _, h⟩ <;> omega
  have htwo := h.two
  have H := hid h
  have HF := hid hf
  have HC := hid hc
  have h1 := hc 1 (by omega)
  have t3 := h.first
  have t1 : (f 1 == 47) = false := by
    rw [beq_eq_false_iff_ne]; intro e; rw [e] at t3; cases t3
  have t2 : ((1 : Int) == n) = false := by rw [beq_eq_false_iff_ne]; omega
  clear h hf hc
  go_enter Try.func31, Try.ntmps31
  go_wp2_with fail
  refine (isLetter_any _ _ (HF.out 1 (by omega))).mono ?_
  rintro e _ ⟨rfl, rfl⟩
  go_wp2_with fail
  go_loop [3] (fun x => ∃ t : Nat, 2 ≤ t ∧ t ≤ m ∧ x = .int .i64 t) (fun x => n - (intOf x).toNat)
  case atStart => exact ⟨2, Nat.le_refl _, htwo, rfl⟩
  case round =>
    obtain ⟨t, ht1, ht2, rfl⟩ := hrel
    have hcell := HC.out t (by omega)
    clear h1 t1 t2 t3
    by_cases htm : t < m
    · have hnm := H.out.name t ht1 htm
      by_cases ha : alnB (f t) = true
      · clear hnm
        go_wp2_with fail
        refine (isAlnum_any _ _ (HF.out t (by omega))).mono ?_
        rintro e _ ⟨rfl, rfl⟩
        go_wp2_with fail
        go_round
        case rel => exact ⟨t + 1, by omega, by omega, by go_num⟩
        case measure => simp [intOf]; omega
      · have ha' : alnB (f t) = false := by simpa using ha
        have h45 := nmB_parts hnm ha'
        clear hnm ha
        go_wp2_with fail
        refine (isAlnum_any _ _ (HF.out t (by omega))).mono ?_
        rintro e _ ⟨rfl, rfl⟩
        go_wp2_with fail
        go_round
        case rel => exact ⟨t + 1, by omega, by omega, by go_num⟩
        case measure => simp [intOf]; omega
    · have htm' : t = m := by omega
      subst htm'
      have ha : alnB (f t) = false := by rw [H.out.sp]; decide
      have h45 : (f t == 45) = false := by rw [H.out.sp]; decide
      go_wp2_with fail
      refine (isAlnum_any _ _ (HF.out t (by omega))).mono ?_
      rintro e _ ⟨rfl, rfl⟩
      go_wp2_with fail
      clear ha h45 hcell
      go_loop [3] (fun x => ∃ i : Nat, (i = t ∨ i = t + 5 + v) ∧ x = .int .i64 i) (fun x => n - (intOf x).toNat)
      case atStart => exact ⟨t, .inl rfl, rfl⟩
      case round =>
        obtain ⟨i, hi, rfl⟩ := hrel
        rcases hi with rfl | hi
        · have hcx := HC.out (i + 1) (by omega)
          have x1 : (f (i + 1) == 62) = false := by rw [H.out.x]; decide
          have x2 : (f (i + 1) == 47) = false := by rw [H.out.x]; decide
          have x3 : letB (f (i + 1)) = true := by rw [H.out.x]; decide
          have x4 : ((i : Int) + 1 == i) = false := by rw [beq_eq_false_iff_ne]; omega
          have x5 : ((i : Int) + 1 == n) = false := by rw [beq_eq_false_iff_ne]; omega
          go_wp2_with fail
          refine (skip_any b o n c i (i + 1) f _ hn (by omega) (by omega) (fun u h1 h2 => by left; rw [show u = i from by omega]; exact H.out.sp) (by rw [H.out.x]; decide) HC.out).mono ?_
          rintro e _ ⟨rfl, rfl⟩
          go_wp2_with fail
          refine (isLetter_any _ _ (HF.out (i + 1) (by omega))).mono ?_
          rintro e _ ⟨rfl, rfl⟩
          go_wp2_with fail
          clear x1 x2 x3 x4 x5 hcx
          go_loop [5] (fun x => x = .int .i64 ((i : Int) + 2)) (fun x => 0)
          case atStart => go_num
          case round =>
            subst hrel
            have hc2 := HC.out (i + 2) (by omega)
            have y1 : alnB (f (i + 2)) = false := by rw [H.out.eq]; decide
            have y2 : (f (i + 2) == 61) = true := by rw [H.out.eq]; decide
            have hc3 := HC.out (i + 3) (by omega)
            have y3 : ((i : Int) + 3 == n) = false := by rw [beq_eq_false_iff_ne]; omega
            have y4 : spB (f (i + 3)) = false := by rw [H.out.q1]; rcases H.out.quote with h | h <;> rw [h] <;> decide
            have Y4 := hid y4
            clear y4
            go_wp2_with fail
            refine (isAlnum_any _ _ (HF.out (i + 2) (by omega))).mono ?_
            rintro e _ ⟨rfl, rfl⟩
            go_wp2_with fail
            refine (str_at _ H.out.eq _).mono ?_
            rintro e _ ⟨rfl, rfl⟩
            go_wp2_with fail
            refine (skip_at b o n c (i + 2) (i + 2) _ f _ hn (by omega) (by omega) (by omega) (fun u h1 h2 => by omega) (by rw [H.out.eq]; decide) HC.out).mono ?_
            rintro e _ ⟨rfl, rfl⟩
            go_wp2_with fail
            refine (skip_at b o n c (i + 3) (i + 3) _ f _ hn (by omega) (by omega) (by omega) (fun u h1 h2 => by omega) Y4.out HC.out).mono ?_
            rintro e _ ⟨rfl, rfl⟩
            rcases H.out.quote with hq | hq
            case' inl =>
              have z1 : (f (i + 3) == 34) = true := by rw [H.out.q1, hq]; decide
            case' inr =>
              have z0 : (f (i + 3) == 34) = false := by rw [H.out.q1, hq]; decide
              have z1 : (f (i + 3) == 39) = true := by rw [H.out.q1, hq]; decide
            all_goals
              have HQ := hid hq
              clear hq
              go_wp2_with fail
              refine (indexByte_at b (o + (i + 3 + 1)) (n - (i + 3 + 1)) (c - (i + 3 + 1)) v (f (i + 3)) (fun t => f (i + 3 + 1 + t)) _ (HF.out (i + 3) (by omega)).1 (HF.out (i + 3) (by omega)).2 (by omega) (fun t ht => HF.out (i + 3 + 1 + t) (by omega))
                (by show f (i + 3 + 1 + v) = f (i + 3); rw [H.out.q1]; exact H.out.q2) (fun t ht => by show f (i + 3 + 1 + t) ≠ f (i + 3); rw [H.out.q1]; exact H.out.val (i + 3 + 1 + t) (by omega) (by omega))
                (fun t ht => by rw [Nat.add_assoc]; exact HC.out (i + 3 + 1 + t) (by omega))).mono ?_
              rintro e _ ⟨rfl, rfl⟩
              go_wp2_with fail
              go_round
              case' rel => exact ⟨i + 5 + v, .inr rfl, by go_num⟩
              case' measure => simp [intOf]; omega
        · have hin : i < n := by omega
          have hcj := HC.out i hin
          rcases H.out.fin with ⟨hg, he⟩ | ⟨hs, hg, he⟩
          · have g1 : Hid (f i = 62) := hid (by rw [hi]; exact hg)
            have z1 : (f i == 62) = true := by rw [g1.out]; decide
            have HE : Hid ((e0 : Int) = i + 1) := hid (by omega)
            clear hg he hi
            go_wp2_with fail
            refine (skip_at b o n c i i _ f _ hn rfl (by omega) hin (fun u h1 h2 => by omega) (by rw [g1.out]; decide) HC.out).mono ?_
            rintro e _ ⟨rfl, rfl⟩
            go_wp2_with fail
            go_ret
            exact ⟨ret_int HE.out.symm, rfl⟩
          · have hin1 : i + 1 < n := by have := H.out.len; omega
            have hcj1 := HC.out (i + 1) hin1
            have g1 : Hid (f i = 47) := hid (by rw [hi]; exact hs)
            have g2 : Hid (f (i + 1) = 62) := hid (by rw [hi, show t + 5 + v + 1 = t + 6 + v from by omega]; exact hg)
            have z1 : (f i == 62) = false := by rw [g1.out]; decide
            have z2 : (f i == 47) = true := by rw [g1.out]; decide
            have z3 : (f (i + 1) == 62) = true := by rw [g2.out]; decide
            have HE : Hid ((e0 : Int) = i + 2) := hid (by omega)
            clear hg he hi hs
            go_wp2_with fail
            refine (skip_at b o n c i i _ f _ hn rfl (by omega) hin (fun u h1 h2 => by omega) (by rw [g1.out]; decide) HC.out).mono ?_
            rintro e _ ⟨rfl, rfl⟩
            go_wp2_with fail
            go_ret
            exact ⟨ret_int HE.out.symm, rfl⟩

end Go.Proofs.Qxb6001283a
