/- zzParse at a byte string. -/
import Derived.Test.Qxb6001056aParse
namespace Go.Proofs.Qxb6001056a
open Go.ChangeShapes Go.WideShapes Go.ChangeAt Go.RowKit
set_option linter.unusedVariables false

theorem val_str {f : Nat → Int} {n pos k : Nat} (h : StrEnd f n pos k) : Val f n pos (pos + k + 1 + (numTo f pos k).toNat) :=
  .inl ⟨by have := h.2.2.2.2; omega, h.2.2.2.2, by omega, .inr (.inr (.inr ⟨k, h, rfl, rfl⟩))⟩

set_option maxRecDepth 100000 in
set_option maxHeartbeats 4000000 in
theorem parse_str (b o n c pos : Nat) (f : Nat → Int) (w : World) (hn : n ≤ 2097152) (hp : pos < n) (hf : dig (f pos) = true)
    (hc : ∀ i, i < n → w.cell? ⟨b, o + i, none⟩ = some (.int .u8 (f i))) :
    Calls Try.prog 20 #[.slice (some ⟨b, o, none⟩) n c, .int .i64 pos] w (ParsePost f n pos w) := by
  have h1 := hc pos (by omega)
  have hfr := dig_iff.1 hf
  have t1 : (f pos == 105) = false := by rw [beq_eq_false_iff_ne]; omega
  have t2 : (f pos == 108) = false := by rw [beq_eq_false_iff_ne]; omega
  have t3 : (f pos == 100) = false := by rw [beq_eq_false_iff_ne]; omega
  have HC := hid hc
  clear hc hfr
  go_enter Try.func20, Try.ntmps20
  go_wp2_with fail
  refine (zzIsDigit_any _ _).mono ?_
  rintro e _ ⟨rfl, rfl⟩
  go_wp2_with fail
  go_loop [18, 19] (fun x y => ∃ t : Nat, pos + t ≤ n ∧ x = .int .i64 (numTo f pos t) ∧ y = .int .i64 (pos + t) ∧ (∀ u, u < t → dig (f (pos + u)) = true) ∧ ∀ u, u ≤ t → numTo f pos u ≤ n) (fun _ y => n - (intOf y).toNat)
  case atStart => exact ⟨0, by omega, rfl, by go_num, fun u hu => by omega, fun u hu => by rw [show u = 0 from by omega]; simp [numTo]⟩
  case round =>
    obtain ⟨t, ht, rfl, rfl, hdg, hnm⟩ := hrel
    have hn1 := numTo_nonneg f pos t hdg
    have hn2 := hnm t (Nat.le_refl _)
    have HD := hid hdg
    have HN := hid hnm
    clear hdg hnm
    by_cases hlt : pos + t < n
    · have hcp := HC.out (pos + t) hlt
      by_cases hd : dig (f (pos + t)) = true
      · have hdr := dig_iff.1 hd
        by_cases hbig : numTo f pos t * 10 + (f (pos + t) - 48) ≤ n
        · go_wp2_with fail
          refine (zzIsDigit_any _ _).mono ?_
          rintro e _ ⟨rfl, rfl⟩
          go_wp2_with fail
          go_round
          case rel =>
            refine ⟨t + 1, by omega, by simp only [numTo], by go_num, fun u hu => ?_, fun u hu => ?_⟩
            · by_cases e : u = t
              · rw [e]; exact hd
              · exact HD.out u (by omega)
            · by_cases e : u = t + 1
              · rw [e]; simp only [numTo]; exact hbig
              · exact HN.out u (by omega)
          case measure => simp [intOf]; omega
        · go_wp2_with fail
          refine (zzIsDigit_any _ _).mono ?_
          rintro e _ ⟨rfl, rfl⟩
          go_wp2_with fail
          go_ret3
          exact ⟨rfl, .inl rfl⟩
      · have hd' : dig (f (pos + t)) = false := by simpa using hd
        have ht0 : 0 < t := by
          by_cases e : t = 0
          · rw [e, Nat.add_zero, hf] at hd'; cases hd'
          · omega
        clear hd
        by_cases hcol : f (pos + t) = 58
        · have hcol' : (f (pos + t) != 58) = false := by rw [hcol]; decide
          have HCOL := hid hcol
          clear hcol
          by_cases hfit : numTo f pos t ≤ (n : Int) - (pos + t + 1)
          · go_wp2_with fail
            refine (zzIsDigit_any _ _).mono ?_
            rintro e _ ⟨rfl, rfl⟩
            go_wp2_with fail
            all_goals go_ret3
            all_goals first | exact ⟨rfl, .inl rfl⟩ | exact ⟨rfl, .inr ⟨2, pos + t + 1 + (numTo f pos t).toNat, retT (by omega), by omega, val_str ⟨ht0, HD.out, HCOL.out, HN.out, by omega⟩⟩⟩
          · go_wp2_with fail
            refine (zzIsDigit_any _ _).mono ?_
            rintro e _ ⟨rfl, rfl⟩
            go_wp2_with fail
            all_goals go_ret3
            all_goals exact ⟨rfl, .inl rfl⟩
        · have hcol' : (f (pos + t) != 58) = true := by rw [bne_iff_ne]; exact hcol
          clear hcol
          go_wp2_with fail
          refine (zzIsDigit_any _ _).mono ?_
          rintro e _ ⟨rfl, rfl⟩
          go_wp2_with fail
          all_goals go_ret3
          all_goals exact ⟨rfl, .inl rfl⟩
    · go_wp2_with fail
      all_goals go_ret3
      all_goals exact ⟨rfl, .inl rfl⟩

end Go.Proofs.Qxb6001056a
