/- plainPath and the law. -/
import Derived.Test.Qxb6001118aLeaf
namespace Go.Proofs.Qxb6001118a
open Go.ChangeShapes Go.WideShapes Go.ChangeAt Go.RowKit
set_option linter.unusedVariables false

/-- '/' and then bytes that are let. -/
structure Plain (t : ByteArray) : Prop where
  pos : 1 ≤ t.size
  le : t.size ≤ 2097152
  head : t.extract 0 1 = ⟨#[47]⟩
  ok : ∀ i (h : i < t.size), okB (t[i].toNat : Int) = true

theorem plain_any (t : ByteArray) (w : World) (h : Plain t) :
    Calls Try.prog 23 #[.string t] w fun e w' => e = .returned (.bool true) ∧ w' = w := by
  have hpos := h.pos
  have hle := h.le
  have H := hid h
  clear h
  go_enter Try.func23, Try.ntmps23
  go_wp2_with fail
  refine (str_prefix t w hpos H.out.head hle).mono ?_
  rintro e _ ⟨rfl, rfl⟩
  go_wp2_with fail
  go_loop [3] (fun i => ∃ k : Nat, k ≤ t.size ∧ i = .int .i64 k) (fun i => t.size - (intOf i).toNat)
  case atStart => exact ⟨0, Nat.zero_le _, rfl⟩
  case round =>
    obtain ⟨k, hk, rfl⟩ := hrel
    by_cases hlt : k < t.size
    · rcases okB_of (H.out.ok k hlt) with ⟨h1, h2⟩ | ⟨h1, h2⟩ | ⟨h1, h2⟩ | hm
      · go_wp2_with fail
        go_round
        case rel => exact ⟨k + 1, by omega, by go_num⟩
        case measure => simp [intOf]; omega
      · go_wp2_with fail
        go_round
        case rel => exact ⟨k + 1, by omega, by go_num⟩
        case measure => simp [intOf]; omega
      · go_wp2_with fail
        go_round
        case rel => exact ⟨k + 1, by omega, by go_num⟩
        case measure => simp [intOf]; omega
      · have HM := hid hm
        have d1 : ¬ (97 ≤ (t[k].toNat : Int) ∧ (t[k].toNat : Int) ≤ 122) := by omega
        have d2 : ¬ (65 ≤ (t[k].toNat : Int) ∧ (t[k].toNat : Int) ≤ 90) := by omega
        have d3 : ¬ (48 ≤ (t[k].toNat : Int) ∧ (t[k].toNat : Int) ≤ 57) := by omega
        clear hm
        go_wp2_with fail
        all_goals
          refine (str_ix _ _ HM.out).mono ?_
          rintro e _ ⟨rfl, r, rfl, hr⟩
          go_wp2_with fail
          go_round
          case' rel => exact ⟨k + 1, by omega, by go_num⟩
          case' measure => simp [intOf]; omega
    · go_wp2_with fail
      go_ret
      exact ⟨rfl, rfl⟩

theorem zzPlain_any (t : ByteArray) (w : World) (h : Plain t) :
    Calls Try.prog 10 #[.string t] w fun e w' => e = .returned (.bool true) ∧ w' = w := by
  have H := hid h
  clear h
  go_enter Try.func10, Try.ntmps10
  go_wp2_with fail
  refine (plain_any t w H.out).mono ?_
  rintro e _ ⟨rfl, rfl⟩
  go_wp2_with fail
  go_ret
  exact ⟨rfl, rfl⟩

theorem size_slash (s : ByteArray) : ((⟨#[47]⟩ : ByteArray) ++ s).size = 1 + s.size := by rw [ByteArray.size_append]; rfl

theorem plain_slash (s : ByteArray) (hs : s.size ≤ 1048576) (h : ∀ i (h : i < s.size), okB (s[i].toNat : Int) = true) : Plain ((⟨#[47]⟩ : ByteArray) ++ s) := by
  have hz := size_slash s
  refine ⟨by omega, by omega, ?_, fun i hi => ?_⟩
  · rw [ByteArray.extract_append]
    apply ByteArray.ext
    simp
    exact .inl rfl
  · by_cases h0 : i < 1
    · have e : ((⟨#[47]⟩ : ByteArray) ++ s)[i] = 47 := by
        rw [ByteArray.getElem_append_left (by show i < 1; exact h0)]
        obtain rfl : i = 0 := by omega
        rfl
      rw [e]; decide
    · have e : ((⟨#[47]⟩ : ByteArray) ++ s)[i] = s[i - 1]'(by omega) := by
        rw [ByteArray.getElem_append_right (by show 1 ≤ i; omega)]
        rfl
      rw [e]; exact h (i - 1) (by omega)

theorem law_any (s : ByteArray) (w : World) : Calls Try.prog 5 #[.string s] w fun e w' => e = .returned (.bool true) ∧ w' = w := by
  by_cases hs : s.size ≤ 1048576
  · go_enter Try.func5, Try.ntmps5
    go_wp2_with fail
    refine (zzBytes_yes s w hs).mono ?_
    rintro e _ ⟨rfl, rfl⟩
    go_wp2_with fail
    go_loop [3] (fun i => ∃ k : Nat, k ≤ s.size ∧ i = .int .i64 k ∧ ∀ j (h : j < s.size), j < k → okB (s[j].toNat : Int) = true) (fun i => s.size - (intOf i).toNat)
    case atStart => exact ⟨0, Nat.zero_le _, rfl, fun j h hj => by omega⟩
    case round =>
      obtain ⟨k, hk, rfl, hall⟩ := hrel
      have HA := hid hall
      clear hall
      by_cases hlt : k < s.size
      · go_wp2_with fail
        refine (unres_any _ _).mono ?_
        rintro e _ ⟨rfl, r, rfl, hr⟩
        cases r with
        | false =>
          clear hr
          go_wp2_with fail
          go_ret
          exact ⟨rfl, rfl⟩
        | true =>
          have HR := hid (hr rfl)
          clear hr
          go_wp2_with fail
          go_round
          case rel =>
            refine ⟨k + 1, by omega, by go_num, fun j h hj => ?_⟩
            by_cases e : j = k
            · subst e; exact HR.out
            · exact HA.out j h (by omega)
          case measure => simp [intOf]; omega
      · go_wp2_with fail
        refine (zzPlain_any _ _ (plain_slash s hs (fun i h => HA.out i h (by omega)))).mono ?_
        rintro e _ ⟨rfl, rfl⟩
        go_wp2_with fail
        go_ret
        exact ⟨rfl, rfl⟩
  · go_enter Try.func5, Try.ntmps5
    go_wp2_with fail
    refine (zzBytes_no s w (by omega)).mono ?_
    rintro e _ ⟨rfl, rfl⟩
    go_wp2_with fail
    go_ret
    exact ⟨rfl, rfl⟩

end Go.Proofs.Qxb6001118a
