/- zzParse at a list and at a dictionary; zzParse whole; zzValid. -/
import Derived.Test.Qxb6001056aParseStr
namespace Go.Proofs.Qxb6001056a
open Go.ChangeShapes Go.WideShapes Go.ChangeAt Go.RowKit
set_option linter.unusedVariables false

theorem val_box {f : Nat → Int} {n pos p : Nat} (h1 : f pos = 108 ∨ f pos = 100) (h2 : pos < p) (h3 : p < n) (h4 : f p = 101) (h5 : Path f n (pos + 1) p) : Val f n pos (p + 1) :=
  .inr ⟨p, ⟨by omega, by omega, by omega, .inl ⟨h1, rfl, rfl⟩⟩, h5, ⟨h3, by omega, by omega, .inr (.inl ⟨h4, rfl, rfl⟩)⟩⟩

set_option maxRecDepth 100000 in
set_option maxHeartbeats 4000000 in
theorem parse_list (b o n c pos : Nat) (f : Nat → Int) (w : World) (hn : n ≤ 2097152) (hp : pos < n) (hf : f pos = 108)
    (hc : ∀ i, i < n → w.cell? ⟨b, o + i, none⟩ = some (.int .u8 (f i)))
    (ih : ∀ p : Nat, pos < p → p ≤ n → Calls Try.prog 20 #[.slice (some ⟨b, o, none⟩) n c, .int .i64 p] w (ParsePost f n p w)) :
    Calls Try.prog 20 #[.slice (some ⟨b, o, none⟩) n c, .int .i64 pos] w (ParsePost f n pos w) := by
  have h1 := hc pos (by omega)
  have t1 : (f pos == 105) = false := by rw [hf]; decide
  have t2 : (f pos == 108) = true := by rw [hf]; decide
  have t3 : (f pos == 100) = false := by rw [hf]; decide
  have g1 : decide (n ≤ pos) = false := decide_eq_false (by omega)
  have g2 : decide ((pos : Int) < 0) = false := decide_eq_false (by omega)
  have HC := hid hc
  have HF := hid hf
  have IH := hid ih
  clear hc hf ih
  go_enter Try.func20, Try.ntmps20
  go_wp2_with fail
  go_loop [11] (fun x => ∃ p : Nat, pos < p ∧ p ≤ n ∧ x = .int .i64 p ∧ Path f n (pos + 1) p) (fun x => n - (intOf x).toNat)
  case atStart => exact ⟨pos + 1, by omega, by omega, by go_num, path_refl _ _ _⟩
  case round =>
    obtain ⟨p, hp1, hp2, rfl, hpath⟩ := hrel
    have HP := hid hpath
    clear hpath h1
    by_cases hlt : p < n
    · have hcp := HC.out p hlt
      by_cases he : f p = 101
      · have he' : (f p == 101) = true := by rw [he]; decide
        have HE := hid he
        clear he
        go_wp2_with fail
        go_ret3
        exact ⟨rfl, .inr ⟨3, p + 1, retT (by omega), by omega, val_box (.inl HF.out) hp1 hlt HE.out HP.out⟩⟩
      · have he' : (f p == 101) = false := by rw [beq_eq_false_iff_ne]; exact he
        clear he
        go_wp2_with fail
        refine (IH.out p hp1 hp2).mono ?_
        rintro e _ ⟨rfl, rfl | ⟨k, q, rfl, hq1, hq2⟩⟩
        · go_wp2_with fail
          go_ret3
          exact ⟨rfl, .inl rfl⟩
        · have HQ := hid hq2
          have hqn := (val_lt hq2).2
          clear hq2
          go_wp2_with fail
          go_round
          case rel =>
            exact ⟨q, by omega, hqn, rfl, path_trans HP.out (val_path HQ.out)⟩
          case measure => simp [intOf]; omega
    · go_wp2_with fail
      go_ret3
      exact ⟨rfl, .inl rfl⟩

set_option maxRecDepth 100000 in
set_option maxHeartbeats 4000000 in
theorem parse_dict (b o n c pos : Nat) (f : Nat → Int) (w : World) (hn : n ≤ 2097152) (hp : pos < n) (hf : f pos = 100)
    (hc : ∀ i, i < n → w.cell? ⟨b, o + i, none⟩ = some (.int .u8 (f i)))
    (ih : ∀ p : Nat, pos < p → p ≤ n → Calls Try.prog 20 #[.slice (some ⟨b, o, none⟩) n c, .int .i64 p] w (ParsePost f n p w)) :
    Calls Try.prog 20 #[.slice (some ⟨b, o, none⟩) n c, .int .i64 pos] w (ParsePost f n pos w) := by
  have h1 := hc pos (by omega)
  have t1 : (f pos == 105) = false := by rw [hf]; decide
  have t2 : (f pos == 108) = false := by rw [hf]; decide
  have t3 : (f pos == 100) = true := by rw [hf]; decide
  have g1 : decide (n ≤ pos) = false := decide_eq_false (by omega)
  have g2 : decide ((pos : Int) < 0) = false := decide_eq_false (by omega)
  have HC := hid hc
  have HF := hid hf
  have IH := hid ih
  clear hc hf ih
  go_enter Try.func20, Try.ntmps20
  go_wp2_with fail
  go_loop [11] (fun x => ∃ p : Nat, pos < p ∧ p ≤ n ∧ x = .int .i64 p ∧ Path f n (pos + 1) p) (fun x => n - (intOf x).toNat)
  case atStart => exact ⟨pos + 1, by omega, by omega, by go_num, path_refl _ _ _⟩
  case round =>
    obtain ⟨p, hp1, hp2, rfl, hpath⟩ := hrel
    have HP := hid hpath
    clear hpath h1
    by_cases hlt : p < n
    · have hcp := HC.out p hlt
      by_cases he : f p = 101
      · have he' : (f p == 101) = true := by rw [he]; decide
        have HE := hid he
        clear he
        go_wp2_with fail
        go_ret3
        exact ⟨rfl, .inr ⟨4, p + 1, retT (by omega), by omega, val_box (.inr HF.out) hp1 hlt HE.out HP.out⟩⟩
      · have he' : (f p == 101) = false := by rw [beq_eq_false_iff_ne]; exact he
        clear he
        go_wp2_with fail
        refine (IH.out p hp1 hp2).mono ?_
        rintro e _ ⟨rfl, rfl | ⟨k, q, rfl, hq1, hq2⟩⟩
        · go_wp2_with fail
          go_ret3
          exact ⟨rfl, .inl rfl⟩
        · have HQ := hid hq2
          have hqn := (val_lt hq2).2
          clear hq2
          by_cases hk : k = 2
          · have hk' : (k != 2) = false := by rw [hk]; decide
            clear hk
            go_wp2_with fail
            refine (IH.out q (by omega) hqn).mono ?_
            rintro e _ ⟨rfl, rfl | ⟨k2, q2, rfl, hq3, hq4⟩⟩
            · go_wp2_with fail
              go_ret3
              exact ⟨rfl, .inl rfl⟩
            · have HQ2 := hid hq4
              have hqn2 := (val_lt hq4).2
              clear hq4
              go_wp2_with fail
              go_round
              case rel =>
                exact ⟨q2, by omega, hqn2, rfl, path_trans HP.out (path_trans (val_path HQ.out) (val_path HQ2.out))⟩
              case measure => simp [intOf]; omega
          · have hk' : (k != 2) = true := by rw [bne_iff_ne]; exact hk
            clear hk
            go_wp2_with fail
            go_ret3
            exact ⟨rfl, .inl rfl⟩
    · go_wp2_with fail
      go_ret3
      exact ⟨rfl, .inl rfl⟩

theorem parse_any (b o n c : Nat) (f : Nat → Int) (w : World) (hn : n ≤ 2097152)
    (hc : ∀ i, i < n → w.cell? ⟨b, o + i, none⟩ = some (.int .u8 (f i))) (m : Nat) :
    ∀ pos : Nat, pos ≤ n → n - pos ≤ m → Calls Try.prog 20 #[.slice (some ⟨b, o, none⟩) n c, .int .i64 pos] w (ParsePost f n pos w) := by
  induction m with
  | zero => intro pos h1 h2; exact parse_out _ n c pos f w hn (by omega) (by omega)
  | succ m ih =>
    intro pos h1 h2
    by_cases hp : pos < n
    · have ih' : ∀ p : Nat, pos < p → p ≤ n → Calls Try.prog 20 #[.slice (some ⟨b, o, none⟩) n c, .int .i64 p] w (ParsePost f n p w) := fun p hp1 hp2 => ih p hp2 (by omega)
      by_cases hi : f pos = 105
      · by_cases hp1 : pos + 1 < n
        · by_cases hm : f (pos + 1) = 45
          · exact parse_int_neg b o n c pos f w hn hp1 hi hm hc
          · exact parse_int_pos b o n c pos f w hn hp1 hi hm hc
        · exact parse_int_end b o n c pos f w hn (by omega) hi hc
      · by_cases hl : f pos = 108
        · exact parse_list b o n c pos f w hn hp hl hc ih'
        · by_cases hd : f pos = 100
          · exact parse_dict b o n c pos f w hn hp hd hc ih'
          · cases hg : dig (f pos) with
            | true => exact parse_str b o n c pos f w hn hp hg hc
            | false => exact parse_bad b o n c pos f w hn hp hi hl hd hg hc
    · exact parse_out _ n c pos f w hn (by omega) (by omega)

/-- A slice that came in, or that was made: its n bytes, told by f. -/
def RowAt (w : World) (a : Option Addr) (n : Nat) (f : Nat → Int) : Prop :=
  n = 0 ∨ ∃ b o, a = some ⟨b, o, none⟩ ∧ ∀ i, i < n → w.cell? ⟨b, o + i, none⟩ = some (.int .u8 (f i))

def ValidPost (f : Nat → Int) (n : Nat) (w : World) (e : Ending) (w' : World) : Prop :=
  w' = w ∧ ∃ (k : Int) (ok : Bool), e = .returned (.tuple #[.int .i64 k, .bool ok]) ∧ (ok = true → Val f n 0 n)

theorem valid_any (a : Option Addr) (n c : Nat) (f : Nat → Int) (w : World) (hn : n ≤ 2097152) (h : RowAt w a n f) :
    Calls Try.prog 8 #[.slice a n c] w (ValidPost f n w) := by
  have hp : Calls Try.prog 20 #[.slice a n c, .int .i64 (0 : Nat)] w (ParsePost f n 0 w) := by
    rcases h with rfl | ⟨b, o, rfl, hc⟩
    · exact parse_out a 0 c 0 f w hn (by omega) (by omega)
    · exact parse_any b o n c f w hn hc n 0 (by omega) (by omega)
  have HP := hid hp
  clear hp h
  go_enter Try.func8, Try.ntmps8
  go_wp2_with fail
  refine HP.out.mono ?_
  rintro e _ ⟨rfl, rfl | ⟨k, q, rfl, hq1, hq2⟩⟩
  · go_wp2_with fail
    go_ret2
    exact ⟨rfl, 0, false, rfl, fun h => by cases h⟩
  · by_cases hqn : q = n
    · subst hqn
      have HQ := hid hq2
      clear hq2
      go_wp2_with fail
      go_ret2
      exact ⟨rfl, k, true, rfl, fun _ => HQ.out⟩
    · have hqn' : ((q : Int) != n) = true := by rw [bne_iff_ne]; omega
      have hqn2 := (val_lt hq2).2
      clear hq2
      go_wp2_with fail
      go_ret2
      exact ⟨rfl, 0, false, rfl, fun h => by cases h⟩

end Go.Proofs.Qxb6001056a
