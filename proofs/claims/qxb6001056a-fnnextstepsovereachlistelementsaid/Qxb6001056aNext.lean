/- next, ZZNext, ZZValueOf. -/
import Derived.Test.Qxb6001056aLeaf
namespace Go.Proofs.Qxb6001056a
open Go.ChangeShapes Go.WideShapes Go.ChangeAt Go.RowKit
set_option linter.unusedVariables false

def NextPost (w : World) (q : Nat) (e : Ending) (w' : World) : Prop := e = .returned (.int .i64 q) ∧ Below w.heap.size w w'

theorem ret_int {k : IntKind} {a b : Int} (h : a = b) : Ending.returned (.int k a) = .returned (.int k b) := by rw [h]

theorem step_le {f : Nat → Int} {n p q : Nat} {d : Int} (h : Step f n p d q) : -1 ≤ d ∧ d ≤ 1 := by
  rcases h.2.2.2 with ⟨_, h, _⟩ | ⟨_, h, _⟩ | ⟨_, h, _⟩ | ⟨_, _, h, _⟩ <;> omega

theorem next_any (b o n c p0 q : Nat) (f : Nat → Int) (w : World) (hn : n ≤ 2097152) (hnc : n ≤ c) (hb : b < w.heap.size) (hf : ∀ i, i < n → 0 ≤ f i ∧ f i < 256) (hv : Val f n p0 q)
    (hc : ∀ i, i < n → w.cell? ⟨b, o + i, none⟩ = some (.int .u8 (f i))) :
    Calls Try.prog 21 #[.agg #[.slice (some ⟨b, o, none⟩) n c], .int .i64 p0] w (NextPost w q) := by
  have HV := hid hv
  have HF := hid hf
  have HC := hid hc
  clear hv hf hc
  go_enter Try.func21, Try.ntmps21
  go_wp2
  go_loop [1, 5] (fun x y => ∃ (p : Nat) (o : Int), p ≤ n ∧ 0 ≤ o ∧ o ≤ p ∧ x = .int .i64 p ∧ y = .int .i64 o ∧ Pending f n p o q) (fun x _ => n - (intOf x).toNat)
  case atStart => exact ⟨p0, 0, by have := val_lt HV.out; omega, by omega, by omega, rfl, rfl, .inl ⟨rfl, HV.out⟩⟩
  case round =>
    obtain ⟨p, op, hp, hop1, hop2, rfl, rfl, hpe⟩ := hrel
    obtain ⟨d, p', hst, hnext⟩ := pend_step hpe
    have hdd := step_le hst
    obtain ⟨h1, h2, h3, hcase⟩ := hst
    have hcell := HC.out p h1
    clear hpe
    have HN := hid hnext
    clear hnext
    rcases hcase with ⟨hfp, hd, hq⟩ | ⟨hfp, hd, hq⟩ | ⟨hfp, hd, hq, ha⟩ | ⟨k, hk, hd, hq⟩
    · subst hd
      subst hq
      have hgo : Pending f n (p + 1) (op + 1) q := by
        rcases HN.out with h | h
        · omega
        · exact h.2
      have HGO := hid hgo
      clear hgo
      rcases hfp with hfp | hfp
      case' inl =>
        have ht : (f p == 108) = true := by rw [hfp]; decide
        clear hfp
        go_wp2_with fail
      case' inr =>
        have ht : (f p == 108) = false := by rw [hfp]; decide
        have ht2 : (f p == 100) = true := by rw [hfp]; decide
        clear hfp
        go_wp2_with fail
      all_goals
        go_round
        case' rel => exact ⟨p + 1, op + 1, by omega, by omega, by omega, by go_num, rfl, HGO.out⟩
        case' measure => simp [intOf]; omega
    · subst hd
      subst hq
      have ht : (f p == 108) = false := by rw [hfp]; decide
      have ht2 : (f p == 100) = false := by rw [hfp]; decide
      have ht3 : (f p == 101) = true := by rw [hfp]; decide
      clear hfp
      rcases HN.out with ⟨ho, hq⟩ | ⟨ho, hgo⟩
      · subst hq
        have ho' : op = 1 := by omega
        subst ho'
        clear ho HN
        go_wp2_with fail
        go_ret
        refine ⟨rfl, ?_⟩
        exact (Below.refl _ _).alloc (Nat.le_refl _) _
      · have HGO := hid hgo
        have hop3 : (op - 1 == 0) = false := by rw [beq_eq_false_iff_ne]; omega
        clear hgo HN
        go_wp2_with fail
        go_round
        case rel => exact ⟨p + 1, op + (-1), by omega, by omega, by omega, by go_num, by go_num, HGO.out⟩
        case measure => simp [intOf]; omega
    · subst hd
      have ht : (f p == 108) = false := by rw [hfp]; decide
      have ht2 : (f p == 100) = false := by rw [hfp]; decide
      have ht3 : (f p == 101) = false := by rw [hfp]; decide
      have ht4 : (f p == 105) = true := by rw [hfp]; decide
      have HQ := hid hq
      have HA := hid ha
      have hpp : p + 1 < p' := by
        by_cases e : p + 1 = p'
        · rw [← e, Nat.add_sub_cancel, hfp] at hq; cases hq
        · omega
      clear hfp hq ha
      by_cases ho : op = 0
      case' pos =>
        subst ho
        have hpq : Hid (p' = q) := by
          rcases HN.out with h | h
          · exact h.2
          · omega
      case' neg =>
        have hop3 : (op == 0) = false := by rw [beq_eq_false_iff_ne]; omega
        have hgo : Hid (Pending f n p' op q) := by
          rcases HN.out with h | h
          · omega
          · have := h.2; rwa [Int.add_zero] at this
      all_goals
        clear HN
        go_wp2_with fail
        refine (indexByte_at b (o + p) (n - p) (c - p) (p' - 1 - p) (fun t => f (p + t)) _ (by omega) (fun i hi => HF.out (p + i) (by omega)) (by show f (p + (p' - 1 - p)) = 101; rw [show p + (p' - 1 - p) = p' - 1 from by omega]; exact HQ.out)
          (fun i hi => HA.out (p + i) (by omega) (by omega)) (fun i hi => ?_)).mono ?_
        · rw [Nat.add_assoc, World.cell?_alloc_past _ _ _ hb]
          exact HC.out (p + i) (by omega)
        · rintro e _ ⟨rfl, rfl⟩
          go_wp2_with fail
          first
            | (go_ret; exact ⟨ret_int (by have := hpq.out; omega), (Below.refl _ _).alloc (Nat.le_refl _) _⟩)
            | (go_round
               case' rel => exact ⟨p', op, by omega, by omega, by omega, by go_num, rfl, hgo.out⟩
               case' measure => simp [intOf]; omega)
    · subst hd
      have hdig := dig_iff.1 (hk.2.1 0 hk.1)
      rw [Nat.add_zero] at hdig
      have ht : (f p == 108) = false := by rw [beq_eq_false_iff_ne]; omega
      have ht2 : (f p == 100) = false := by rw [beq_eq_false_iff_ne]; omega
      have ht3 : (f p == 101) = false := by rw [beq_eq_false_iff_ne]; omega
      have ht4 : (f p == 105) = false := by rw [beq_eq_false_iff_ne]; omega
      have HK := hid hk
      have HQ := hid hq
      clear hk hq hdig
      by_cases ho : op = 0
      case' pos =>
        subst ho
        have hpq : Hid (p' = q) := by
          rcases HN.out with h | h
          · exact h.2
          · omega
      case' neg =>
        have hop3 : (op == 0) = false := by rw [beq_eq_false_iff_ne]; omega
        have hgo : Hid (Pending f n p' op q) := by
          rcases HN.out with h | h
          · omega
          · have := h.2; rwa [Int.add_zero] at this
      all_goals
        clear HN
        go_wp2_with fail
        refine (strBody_any b o n c p k f _ hn HK.out (fun i hi => ?_)).mono ?_
        · rw [World.cell?_alloc_past _ _ _ hb]
          exact HC.out i hi
        · rintro e _ ⟨s, rfl, rfl⟩
          rw [← HQ.out]
          go_wp2_with fail
          first
            | (go_ret; exact ⟨ret_int (by have := hpq.out; omega), (Below.refl _ _).alloc (Nat.le_refl _) _⟩)
            | (go_round
               case' rel => exact ⟨p', op, by omega, by omega, by omega, rfl, rfl, hgo.out⟩
               case' measure => simp [intOf]; omega)

def ValuePost (w : World) (a : Option Addr) (n c : Nat) (e : Ending) (w' : World) : Prop := e = .returned (.agg #[.slice a n c]) ∧ Below w.heap.size w w'

theorem valueOf_any (a : Option Addr) (n c : Nat) (w : World) :
    Calls Try.prog 9 #[.slice a n c] w (ValuePost w a n c) := by
  go_enter Try.func9, Try.ntmps9
  go_wp2_with fail
  exact bodyPost_ret (v := .agg #[.slice a n c]) (by simp [results, Try.results9, go_sem]) rfl ⟨rfl, (Below.refl _ _).alloc (Nat.le_refl _) _⟩

theorem zzNext_any (b o n c p0 q : Nat) (f : Nat → Int) (w : World) (hn : n ≤ 2097152) (hnc : n ≤ c) (hb : b < w.heap.size) (hf : ∀ i, i < n → 0 ≤ f i ∧ f i < 256) (hv : Val f n p0 q)
    (hc : ∀ i, i < n → w.cell? ⟨b, o + i, none⟩ = some (.int .u8 (f i))) :
    Calls Try.prog 12 #[.agg #[.slice (some ⟨b, o, none⟩) n c], .int .i64 p0] w (NextPost w q) := by
  have HV := hid hv
  have HF := hid hf
  have HC := hid hc
  clear hv hf hc
  go_enter Try.func12, Try.ntmps12
  go_wp2_with fail
  refine (next_any b o n c p0 q f _ hn hnc (by simp; omega) HF.out HV.out (fun i hi => ?_)).mono ?_
  · rw [World.cell?_alloc_past _ _ _ hb]
    exact HC.out i hi
  · rintro e w1 ⟨rfl, hb1⟩
    have HB := hid hb1
    clear hb1
    go_wp2_with fail
    go_ret
    exact ⟨rfl, ((Below.refl _ _).alloc (Nat.le_refl _) _).trans (HB.out.mono (by simp))⟩

end Go.Proofs.Qxb6001056a
