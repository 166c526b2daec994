/- The law itself. -/
import Derived.Test.Qxb6000991aClone
namespace Go.Proofs.Qxb6000991a
open Go.ChangeShapes Go.WideShapes Go.ChangeAt Go.RowKit
set_option linter.unusedVariables false

theorem below_drewN {B : Nat} {a w : World} (h : Below B a w) (n : Nat) : Below B a (w.drewN n) := h.trans ⟨rfl, rfl, rfl, Nat.le_refl _, fun _ _ => rfl⟩

def MainPost (w : World) (e : Ending) (w' : World) : Prop := e = .returned (.bool true) ∧ Below w.heap.size w w'

/-- The slice that came in. -/
def CameIn (w : World) (a : Option Addr) (n : Nat) (c : Nat) (f : Nat → Int) : Prop :=
  (∀ i, i < n → 0 ≤ f i ∧ f i < 256) ∧ ((a = none ∧ n = 0 ∧ c = 0) ∨ ∃ x, a = some x ∧ ∀ i, i < n → w.cell? (x.add i) = some (.int .u8 (f i)))

def ClonePost (w : World) (n : Nat) (f : Nat → Int) (e : Ending) (w' : World) : Prop :=
  ∃ a c, e = .returned (.slice a n c) ∧ Below w.heap.size w w' ∧ Cloned w' a w.heap.size n c f

theorem clone_row (a : Option Addr) (n c : Nat) (f : Nat → Int) (w : World) (hn : n ≤ 1048576) (h : CameIn w a n c f) :
    Calls Try.prog 7 #[.slice a n c] w (ClonePost w n f) := by
  obtain ⟨hf, ⟨rfl, rfl, rfl⟩ | ⟨x, rfl, hc⟩⟩ := h
  · refine (clone_nil w).mono ?_
    rintro e w' ⟨rfl, rfl⟩
    exact ⟨none, 0, rfl, Below.refl _ _, by omega, by omega, hf, fun i hi => by omega, .inr ⟨rfl, rfl, rfl⟩⟩
  · refine (clone_any x n c f w hn hc).mono ?_
    rintro e w' ⟨rfl, hb, _, hcell⟩
    exact ⟨_, n, rfl, hb, hn, Nat.le_refl _, hf, hcell, .inl rfl⟩

set_option maxHeartbeats 2000000 in
theorem main_small (a : Option Addr) (n c : Nat) (f : Nat → Int) (w : World) (hn : n ≤ 1048576) (h : CameIn w a n c f) :
    Calls Try.prog 3 #[.slice a n c] w (MainPost w) := by
  have HC := hid h
  clear h
  have q22 : ∀ (w : World) (a : Option Addr) (n c n' c' : Nat), (binOp .eql 22 (.slice a n c) (.slice none n' c')).run Try.prog w = .ok (.bool a.isNone) w := fun w a n c n' c' => Lib.run_eql_slice_nil w _ _ a n c n' c' Try.underlying22
  go_enter Try.func3, Try.ntmps3
  go_wp2_with fail
  refine (zzBytes_yes a n c w hn).mono ?_
  rintro e w' ⟨rfl, rfl⟩
  go_wp2_with fail
  refine (clone_row a n c f _ hn HC.out).mono ?_
  rintro e w1 ⟨a1, c1, rfl, hb1, hcl⟩
  have HB1 := hid hb1
  have HCL := hid hcl
  clear hb1 hcl
  go_wp2_with fail
  refine (zzSplit_cloned a1 _ n c1 f _ HCL.out).mono ?_
  rintro e w2 ⟨rfl, ⟨rfl, hno⟩ | ⟨k, m, off, rfl, hyes⟩⟩
  · have HN := hid hno
    clear hno
    go_wp2_with fail
    go_loop [6, 7] (fun s t => s = .int .i64 (-1) ∧ ∃ j : Nat, j ≤ n ∧ t = .int .i64 j) (fun _ t => n - (intOf t).toNat)
    case atStart => exact ⟨rfl, 0, Nat.zero_le _, rfl⟩
    case round =>
      obtain ⟨rfl, j, hj, rfl⟩ := hrel
      by_cases hlt : j < n
      · obtain ⟨h1, h2, h3, h4, h5⟩ := HCL.out
        have h0 := HN.out j hlt
        obtain rfl : a1 = some ⟨w'.heap.size, 0, none⟩ := by
          rcases h5 with h5 | ⟨_, h5, _⟩
          · exact h5
          · omega
        have hcj := h4 j hlt
        clear h3 h5
        by_cases h58 : (f j == 58) = true
        · have hnj : j + 1 < n := by
            have : ¬ j + 1 = n := fun e => h0 ⟨by simpa using h58, .inl e⟩
            omega
          have hcj' := h4 (j + 1) hnj
          have hbl : blankB (f (j + 1)) = false := by
            cases hq : blankB (f (j + 1)) with
            | false => rfl
            | true => exact absurd ⟨by simpa using h58, .inr hq⟩ h0
          have hne : ((j : Int) + 1 == n) = false := by rw [beq_eq_false_iff_ne]; omega
          clear h4 h0
          go_wp2_with fail
          refine (zzBlank_any _ _).mono ?_
          rintro e w' ⟨rfl, rfl⟩
          go_wp2_with fail
          go_round
          case rel => exact ⟨rfl, j + 1, by omega, by go_num⟩
          case measure => simp [intOf]; omega
        · have h58' : (f j == 58) = false := by simpa using h58
          clear h4 h0 h58
          go_wp2_with fail
          go_round
          case rel => exact ⟨rfl, j + 1, by omega, by go_num⟩
          case measure => simp [intOf]; omega
      · go_wp2_with fail
        go_ret
        exact ⟨rfl, HB1.out⟩
  · have HY := hid hyes
    obtain ⟨h1, h2, h3, h4, h5⟩ := HCL.out
    have hkn := hyes.kn
    have hmk := hyes.key.1
    have ho1 := hyes.off1
    have ho2 := hyes.off2
    obtain rfl : a1 = some ⟨w'.heap.size, 0, none⟩ := by
      rcases h5 with h5 | ⟨_, h5, _⟩
      · exact h5
      · omega
    clear hyes h3 h5
    have HC4 := hid h4
    clear h4
    go_wp2_with fail
    go_loop [6, 7] (fun s t => s = .int .i64 (-1) ∧ ∃ j : Nat, j ≤ k ∧ t = .int .i64 j) (fun _ t => n - (intOf t).toNat)
    case atStart => exact ⟨rfl, 0, Nat.zero_le _, rfl⟩
    case round =>
      obtain ⟨rfl, j, hj, rfl⟩ := hrel
      have hcj := HC4.out j (by omega)
      by_cases hjk : j < k
      · have h0 := HY.out.first j hjk
        have hnj : j + 1 < n := by omega
        have hcj' := HC4.out (j + 1) hnj
        have hne : ((j : Int) + 1 == n) = false := by rw [beq_eq_false_iff_ne]; omega
        by_cases h58 : (f j == 58) = true
        · have hbl : blankB (f (j + 1)) = false := by
            cases hq : blankB (f (j + 1)) with
            | false => rfl
            | true => exact absurd ⟨by simpa using h58, .inr hq⟩ h0
          clear h0
          go_wp2_with fail
          refine (zzBlank_any _ _).mono ?_
          rintro e w' ⟨rfl, rfl⟩
          go_wp2_with fail
          go_round
          case rel => exact ⟨rfl, j + 1, by omega, by go_num⟩
          case measure => simp [intOf]; omega
        · have h58' : (f j == 58) = false := by simpa using h58
          clear h0 h58
          go_wp2_with fail
          go_round
          case rel => exact ⟨rfl, j + 1, by omega, by go_num⟩
          case measure => simp [intOf]; omega
      · obtain rfl : j = k := by omega
        have h58 : (f j == 58) = true := by simpa using HY.out.sep.1
        by_cases hjn : j + 1 = n
        case' pos =>
          have hne : ((j : Int) + 1 == n) = true := by rw [beq_iff_eq]; omega
          have HJN := hid hjn
          clear hjn
          go_wp2_with fail
        case' neg =>
          have hne : ((j : Int) + 1 == n) = false := by rw [beq_eq_false_iff_ne]; omega
          have hcj' := HC4.out (j + 1) (by omega)
          have hbl : blankB (f (j + 1)) = true := by
            rcases HY.out.sep.2 with h | h
            · exact absurd h hjn
            · exact h
          go_wp2_with fail
          refine (zzBlank_any _ _).mono ?_
          rintro e _ ⟨rfl, rfl⟩
          go_wp2_with fail
          clear hcj' hbl hjn
        all_goals
          clear hcj hjk hj hne
          refine (eq_any _ 0 _ _ 0 _ m f _ (by omega) (fun i hi => by rw [Nat.zero_add]; exact HC4.out i (by omega)) (fun i hi => by rw [Nat.zero_add]; exact HC4.out i (by omega))).mono ?_
          rintro e w4 ⟨rfl, q, rfl⟩
          by_cases hm0 : m = 0
          case' pos =>
            subst hm0
            go_wp2_with fail
          case' neg =>
            obtain ⟨m', rfl⟩ : ∃ m', m = m' + 1 := ⟨m - 1, by omega⟩
            have hcm := HC4.out m' (by omega)
            have hbm : blankB (f m') = false := HY.out.key.2.1 (by omega)
            go_wp2_with fail
            refine (zzBlank_any _ _).mono ?_
            rintro e _ ⟨rfl, rfl⟩
            go_wp2_with fail
            clear hcm hbm
          all_goals
            go_loop [9] (fun t => ∃ i : Nat, i ≤ j ∧ (∀ i', i ≤ i' → i' < j → blankB (f i') = true) ∧ t = .int .i64 i) (fun t => n - (intOf t).toNat)
            case' atStart => first | exact ⟨0, by omega, HY.out.key.2.2, by go_num⟩ | exact ⟨m' + 1, by omega, HY.out.key.2.2, by go_num⟩
            case' round =>
              obtain ⟨i, hij, hmi, rfl⟩ := hrel
              have HMI := hid hmi
              clear hmi
              by_cases hlt : i < j
              case' pos =>
                have hci := HC4.out i (by omega)
                have hbi : blankB (f i) = true := HMI.out i (Nat.le_refl _) hlt
                go_wp2_with fail
                refine (zzBlank_any _ _).mono ?_
                rintro e _ ⟨rfl, rfl⟩
                go_wp2_with fail
                go_round
                case' rel => exact ⟨i + 1, by omega, fun i' h1 h2 => HMI.out i' (by omega) h2, by go_num⟩
                case' measure => simp [intOf]; omega
              case' neg =>
                clear HMI
                go_wp2_with fail
                go_loop [10] (fun t => ∃ i : Nat, i ≤ off ∧ j + 1 ≤ i ∧ t = .int .i64 i) (fun t => n - (intOf t).toNat)
                case' atStart => exact ⟨j + 1, by omega, by omega, by go_num⟩
                case' round =>
                  obtain ⟨i3, hi3, hj3, rfl⟩ := hrel
                  by_cases hlt3 : i3 < off
                  case' pos =>
                    have hci3 := HC4.out i3 (by omega)
                    have hbi3 : blankB (f i3) = true := HY.out.mid i3 hj3 hlt3
                    go_wp2_with fail
                    refine (zzBlank_any _ _).mono ?_
                    rintro e _ ⟨rfl, rfl⟩
                    go_wp2_with fail
                    go_round
                    case' rel => exact ⟨i3 + 1, by omega, by omega, by go_num⟩
                    case' measure => simp [intOf]; omega
                  case' neg =>
                    by_cases hon : off < n
                    case' pos =>
                      have hco := HC4.out off hon
                      have hbo : blankB (f off) = false := HY.out.fin hon
                      go_wp2_with fail
                      refine (zzBlank_any _ _).mono ?_
                      rintro e _ ⟨rfl, rfl⟩
                      go_wp2_with fail
                      go_ret
                      exact ⟨rfl, below_drewN HB1.out _⟩
                    case' neg =>
                      go_wp2_with fail
                      go_ret
                      exact ⟨rfl, below_drewN HB1.out _⟩

end Go.Proofs.Qxb6000991a
