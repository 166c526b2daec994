/- zzParse, zzValid. -/
import Derived.Test.Qxb6001056aLeaf
namespace Go.Proofs.Qxb6001056a
open Go.ChangeShapes Go.WideShapes Go.ChangeAt Go.RowKit
set_option linter.unusedVariables false

def ParsePost (f : Nat → Int) (n pos : Nat) (w : World) (e : Ending) (w' : World) : Prop :=
  w' = w ∧ (e = .returned (.tuple #[.int .i64 0, .int .i64 0, .bool false]) ∨
    ∃ (k : Int) (q : Nat), e = .returned (.tuple #[.int .i64 k, .int .i64 q, .bool true]) ∧ pos < q ∧ Val f n pos q)

theorem retT {k x x' : Int} (h : x = x') : Ending.returned (.tuple #[.int .i64 k, .int .i64 x, .bool true]) = .returned (.tuple #[.int .i64 k, .int .i64 x', .bool true]) := by rw [h]

theorem val_int {f : Nat → Int} {n pos p : Nat} (h1 : f pos = 105) (h2 : pos < p) (h3 : p < n) (h4 : f p = 101) (h5 : ∀ i, pos ≤ i → i < p → f i ≠ 101) : Val f n pos (p + 1) :=
  .inl ⟨by omega, by omega, by omega, .inr (.inr (.inl ⟨h1, rfl, by rw [Nat.add_sub_cancel]; exact h4, fun i h6 h7 => h5 i h6 (by omega)⟩))⟩

set_option maxRecDepth 100000 in
set_option maxHeartbeats 2000000 in
theorem parse_out (a : Option Addr) (n c pos : Nat) (f : Nat → Int) (w : World) (hn : n ≤ 2097152) (hp : n ≤ pos) (hp2 : pos ≤ 2097152) :
    Calls Try.prog 20 #[.slice a n c, .int .i64 pos] w (ParsePost f n pos w) := by
  go_enter Try.func20, Try.ntmps20
  go_wp2_with fail
  go_ret3
  exact ⟨rfl, .inl rfl⟩

set_option maxRecDepth 100000 in
set_option maxHeartbeats 2000000 in
theorem parse_bad (b o n c pos : Nat) (f : Nat → Int) (w : World) (hn : n ≤ 2097152) (hp : pos < n) (h105 : f pos ≠ 105) (h108 : f pos ≠ 108) (h100 : f pos ≠ 100) (hd : dig (f pos) = false)
    (hc : ∀ i, i < n → w.cell? ⟨b, o + i, none⟩ = some (.int .u8 (f i))) :
    Calls Try.prog 20 #[.slice (some ⟨b, o, none⟩) n c, .int .i64 pos] w (ParsePost f n pos w) := by
  have h1 := hc pos (by omega)
  have t1 : (f pos == 105) = false := by rw [beq_eq_false_iff_ne]; exact h105
  have t2 : (f pos == 108) = false := by rw [beq_eq_false_iff_ne]; exact h108
  have t3 : (f pos == 100) = false := by rw [beq_eq_false_iff_ne]; exact h100
  clear hc h105 h108 h100
  go_enter Try.func20, Try.ntmps20
  go_wp2_with fail
  refine (zzIsDigit_any _ _).mono ?_
  rintro e _ ⟨rfl, rfl⟩
  go_wp2_with fail
  go_ret3
  exact ⟨rfl, .inl rfl⟩

set_option maxRecDepth 100000 in
set_option maxHeartbeats 2000000 in
theorem parse_int_neg (b o n c pos : Nat) (f : Nat → Int) (w : World) (hn : n ≤ 2097152) (hp : pos + 1 < n) (hf : f pos = 105) (hm : f (pos + 1) = 45)
    (hc : ∀ i, i < n → w.cell? ⟨b, o + i, none⟩ = some (.int .u8 (f i))) :
    Calls Try.prog 20 #[.slice (some ⟨b, o, none⟩) n c, .int .i64 pos] w (ParsePost f n pos w) := by
  have h1 := hc pos (by omega)
  have h2 := hc (pos + 1) hp
  have t2 : (f (pos + 1) == 45) = true := by rw [hm]; decide
  have t1 : (f pos == 105) = true := by rw [hf]; decide
  have HC := hid hc
  have HF := hid hf
  have HM := hid hm
  clear hc hf hm
  go_enter Try.func20, Try.ntmps20
  go_wp2_with fail
  go_loop [8] (fun x => ∃ p : Nat, pos + 2 ≤ p ∧ p ≤ n ∧ x = .int .i64 p ∧ ∀ i, pos ≤ i → i < p → f i ≠ 101) (fun x => n - (intOf x).toNat)
  case atStart =>
    refine ⟨pos + 2, Nat.le_refl _, by omega, by go_num, fun i h3 h4 => ?_⟩
    by_cases e : i = pos
    · rw [e, HF.out]; decide
    · rw [show i = pos + 1 from by omega, HM.out]; decide
  case round =>
    obtain ⟨p, hp1, hp2, rfl, hne⟩ := hrel
    have HNE := hid hne
    clear hne h1 h2
    by_cases hlt : p < n
    · have hcp := HC.out p hlt
      by_cases hd : dig (f p) = true
      · go_wp2_with fail
        refine (zzIsDigit_any _ _).mono ?_
        rintro e _ ⟨rfl, rfl⟩
        go_wp2_with fail
        go_round
        case rel =>
          refine ⟨p + 1, by omega, by omega, by go_num, fun i h3 h4 => ?_⟩
          by_cases e : i = p
          · have := dig_iff.1 hd; rw [e]; omega
          · exact HNE.out i h3 (by omega)
        case measure => simp [intOf]; omega
      · have hd' : dig (f p) = false := by simpa using hd
        clear hd
        by_cases hps : p = pos + 2
        · subst hps
          go_wp2_with fail
          refine (zzIsDigit_any _ _).mono ?_
          rintro e _ ⟨rfl, rfl⟩
          go_wp2_with fail
          all_goals go_ret3
          all_goals exact ⟨rfl, .inl rfl⟩
        · have hcs := HC.out (pos + 2) (by omega)
          have hps' : ((p : Int) == pos + 1 + 1) = false := by rw [beq_eq_false_iff_ne]; omega
          by_cases he : f p = 101
          · have he' : (f p != 101) = false := by rw [he]; decide
            have HE := hid he
            clear he
            go_wp2_with fail
            refine (zzIsDigit_any _ _).mono ?_
            rintro e _ ⟨rfl, rfl⟩
            go_wp2_with fail
            all_goals go_ret3
            all_goals first | exact ⟨rfl, .inl rfl⟩ | exact ⟨rfl, .inr ⟨1, p + 1, retT (by omega), by omega, val_int HF.out (by omega) hlt HE.out HNE.out⟩⟩
          · have he' : (f p != 101) = true := by rw [bne_iff_ne]; exact he
            clear he
            go_wp2_with fail
            refine (zzIsDigit_any _ _).mono ?_
            rintro e _ ⟨rfl, rfl⟩
            go_wp2_with fail
            all_goals go_ret3
            all_goals exact ⟨rfl, .inl rfl⟩
    · obtain rfl : p = n := by omega
      by_cases hps : p = pos + 2
      · subst hps
        go_wp2_with fail
        all_goals go_ret3
        all_goals exact ⟨rfl, .inl rfl⟩
      · have hcs := HC.out (pos + 2) (by omega)
        have hps' : ((p : Int) == pos + 1 + 1) = false := by rw [beq_eq_false_iff_ne]; omega
        go_wp2_with fail
        all_goals go_ret3
        all_goals exact ⟨rfl, .inl rfl⟩

set_option maxRecDepth 100000 in
set_option maxHeartbeats 2000000 in
theorem parse_int_pos (b o n c pos : Nat) (f : Nat → Int) (w : World) (hn : n ≤ 2097152) (hp : pos + 1 < n) (hf : f pos = 105) (hm : f (pos + 1) ≠ 45)
    (hc : ∀ i, i < n → w.cell? ⟨b, o + i, none⟩ = some (.int .u8 (f i))) :
    Calls Try.prog 20 #[.slice (some ⟨b, o, none⟩) n c, .int .i64 pos] w (ParsePost f n pos w) := by
  have h1 := hc pos (by omega)
  have h2 := hc (pos + 1) hp
  have t2 : (f (pos + 1) == 45) = false := by rw [beq_eq_false_iff_ne]; exact hm
  have t1 : (f pos == 105) = true := by rw [hf]; decide
  have HC := hid hc
  have HF := hid hf
  have HM := hid hm
  clear hc hf hm
  go_enter Try.func20, Try.ntmps20
  go_wp2_with fail
  go_loop [8] (fun x => ∃ p : Nat, pos + 1 ≤ p ∧ p ≤ n ∧ x = .int .i64 p ∧ ∀ i, pos ≤ i → i < p → f i ≠ 101) (fun x => n - (intOf x).toNat)
  case atStart =>
    refine ⟨pos + 1, Nat.le_refl _, by omega, by go_num, fun i h3 h4 => ?_⟩
    rw [show i = pos from by omega, HF.out]; decide
  case round =>
    obtain ⟨p, hp1, hp2, rfl, hne⟩ := hrel
    have HNE := hid hne
    clear hne h1 h2
    by_cases hlt : p < n
    · have hcp := HC.out p hlt
      by_cases hd : dig (f p) = true
      · go_wp2_with fail
        refine (zzIsDigit_any _ _).mono ?_
        rintro e _ ⟨rfl, rfl⟩
        go_wp2_with fail
        go_round
        case rel =>
          refine ⟨p + 1, by omega, by omega, by go_num, fun i h3 h4 => ?_⟩
          by_cases e : i = p
          · have := dig_iff.1 hd; rw [e]; omega
          · exact HNE.out i h3 (by omega)
        case measure => simp [intOf]; omega
      · have hd' : dig (f p) = false := by simpa using hd
        clear hd
        by_cases hps : p = pos + 1
        · subst hps
          go_wp2_with fail
          refine (zzIsDigit_any _ _).mono ?_
          rintro e _ ⟨rfl, rfl⟩
          go_wp2_with fail
          all_goals go_ret3
          all_goals exact ⟨rfl, .inl rfl⟩
        · have hcs := HC.out (pos + 1) (by omega)
          have hps' : ((p : Int) == pos + 1) = false := by rw [beq_eq_false_iff_ne]; omega
          by_cases he : f p = 101
          · have he' : (f p != 101) = false := by rw [he]; decide
            have HE := hid he
            clear he
            go_wp2_with fail
            refine (zzIsDigit_any _ _).mono ?_
            rintro e _ ⟨rfl, rfl⟩
            go_wp2_with fail
            all_goals go_ret3
            all_goals first | exact ⟨rfl, .inl rfl⟩ | exact ⟨rfl, .inr ⟨1, p + 1, retT (by omega), by omega, val_int HF.out (by omega) hlt HE.out HNE.out⟩⟩
          · have he' : (f p != 101) = true := by rw [bne_iff_ne]; exact he
            clear he
            go_wp2_with fail
            refine (zzIsDigit_any _ _).mono ?_
            rintro e _ ⟨rfl, rfl⟩
            go_wp2_with fail
            all_goals go_ret3
            all_goals exact ⟨rfl, .inl rfl⟩
    · obtain rfl : p = n := by omega
      by_cases hps : p = pos + 1
      · subst hps
        go_wp2_with fail
        all_goals go_ret3
        all_goals exact ⟨rfl, .inl rfl⟩
      · have hcs := HC.out (pos + 1) (by omega)
        have hps' : ((p : Int) == pos + 1) = false := by rw [beq_eq_false_iff_ne]; omega
        go_wp2_with fail
        all_goals go_ret3
        all_goals exact ⟨rfl, .inl rfl⟩

set_option maxRecDepth 100000 in
set_option maxHeartbeats 2000000 in
theorem parse_int_end (b o n c pos : Nat) (f : Nat → Int) (w : World) (hn : n ≤ 2097152) (hp : pos + 1 = n) (hf : f pos = 105)
    (hc : ∀ i, i < n → w.cell? ⟨b, o + i, none⟩ = some (.int .u8 (f i))) :
    Calls Try.prog 20 #[.slice (some ⟨b, o, none⟩) n c, .int .i64 pos] w (ParsePost f n pos w) := by
  have h1 := hc pos (by omega)
  have t1 : (f pos == 105) = true := by rw [hf]; decide
  clear hc hf
  subst hp
  go_enter Try.func20, Try.ntmps20
  go_wp2_with fail
  go_loop [8] (fun x => x = .int .i64 (pos + 1)) (fun x => 0)
  case atStart => rfl
  case round =>
    subst hrel
    go_wp2_with fail
    go_ret3
    exact ⟨rfl, .inl rfl⟩

end Go.Proofs.Qxb6001056a
