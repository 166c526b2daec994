/- splitEntry and ZZSplitEntry. -/
import Derived.Test.Qxb6000991aTrim
namespace Go.Proofs.Qxb6000991a
open Go.ChangeShapes Go.WideShapes Go.ChangeAt Go.RowKit
set_option linter.unusedVariables false

/-- The colon at j parts a key from its value. -/
def Sep (f : Nat → Int) (n j : Nat) : Prop := f j = 58 ∧ (j + 1 = n ∨ blankB (f (j + 1)) = true)

/-- What splitEntry says yes with: the first parting colon k, the key's length m, the value's place off. -/
structure Split (f : Nat → Int) (n k m off : Nat) : Prop where
  kn : k < n
  sep : Sep f n k
  first : ∀ j, j < k → ¬ Sep f n j
  key : TrimR f k m
  off1 : k + 1 ≤ off
  off2 : off ≤ n
  mid : ∀ j, k + 1 ≤ j → j < off → blankB (f j) = true
  fin : off < n → blankB (f off) = false

def SplitPost (b o n c : Nat) (f : Nat → Int) (w : World) (e : Ending) (w' : World) : Prop :=
  w' = w ∧ ((e = .returned (.tuple #[.slice none 0 0, .int .i64 0, .bool false]) ∧ ∀ j, j < n → ¬ Sep f n j) ∨
    ∃ k m off : Nat, e = .returned (.tuple #[.slice (some ⟨b, o, none⟩) m c, .int .i64 off, .bool true]) ∧ Split f n k m off)

theorem ret3 {a a' : Value} {x x' : Int} (h1 : a = a') (h2 : x = x') : Ending.returned (.tuple #[a, .int .i64 x, .bool true]) = .returned (.tuple #[a', .int .i64 x', .bool true]) := by rw [h1, h2]

theorem sep_before {f : Nat → Int} {n i k : Nat} (hb : ∀ j, j < i → ¬ Sep f n j) (hbef : ∀ t, t < k → f (i + t) ≠ 58) : ∀ j, j < i + k → ¬ Sep f n j := by
  intro j hj hs
  by_cases h : j < i
  · exact hb j h hs
  · have := hbef (j - i) (by omega)
    rw [show i + (j - i) = j from by omega] at this
    exact this hs.1

theorem split_any (b o n c : Nat) (f : Nat → Int) (w : World) (hn : n ≤ 1048576) (hnc : n ≤ c) (hpos : 0 < n) (hf : ∀ i, i < n → 0 ≤ f i ∧ f i < 256)
    (hc : ∀ i, i < n → w.cell? ⟨b, o + i, none⟩ = some (.int .u8 (f i))) :
    Calls Try.prog 14 #[.slice (some ⟨b, o, none⟩) n c] w (SplitPost b o n c f w) := by
  have HF := hid hf
  clear hf
  go_enter Try.func14, Try.ntmps14
  go_wp2
  go_loop [5] (fun t => ∃ i : Nat, i < n ∧ t = .int .i64 i ∧ ∀ j, j < i → ¬ Sep f n j) (fun t => n - (intOf t).toNat)
  case atStart => exact ⟨0, hpos, rfl, fun j h => by omega⟩
  case round =>
    obtain ⟨i, hi, rfl, hb⟩ := hrel
    have HB := hid hb
    clear hb
    go_wp2_with fail
    refine (indexByte_any b (o + i) (n - i) (c - i) (fun t => f (i + t)) w (fun t ht => HF.out (i + t) (by omega)) (fun t ht => by rw [Nat.add_assoc]; exact hc (i + t) (by omega))).mono ?_
    rintro e w' ⟨r, rfl, rfl, hfa⟩
    rcases hfa with ⟨rfl, hall⟩ | ⟨k, hk, rfl, h58, hbef⟩
    · have HA := hid hall
      clear hall
      go_wp2_with fail
      go_ret3
      refine ⟨rfl, .inl ⟨rfl, ?_⟩⟩
      have := sep_before (k := n - i) HB.out HA.out
      rw [show i + (n - i) = n from by omega] at this
      exact this
    · have HS := hid (sep_before HB.out hbef)
      have H58 := hid h58
      clear h58 hbef HB
      by_cases e1 : i + k + 1 = n
      · have E1 := hid e1
        have e2 : ((i : Int) + k + 1 == n) = true := by rw [beq_iff_eq]; omega
        have hik : i + k < n := by omega
        clear e1
        go_wp2_with fail
        refine (trimRight_any b o (i + k) c f _ (by omega) (by omega) (fun t ht => hc t (by omega))).mono ?_
        rintro e w' ⟨m, rfl, rfl, hm⟩
        have HM := hid hm
        clear hm
        go_wp2_with fail
        go_ret3
        refine ⟨rfl, .inr ⟨i + k, m, n, rfl, ?_⟩⟩
        exact ⟨hik, ⟨H58.out, .inl E1.out⟩, HS.out, HM.out, by have := E1.out; omega, Nat.le_refl _, fun j h1 h2 => by have := E1.out; omega, fun h => by omega⟩
      · have e2 : ((i : Int) + k + 1 == n) = false := by rw [beq_eq_false_iff_ne]; omega
        have hik : i + k + 1 < n := by omega
        have hcell := hc (i + k + 1) (by omega)
        clear e1
        by_cases hbl : blankB (f (i + k + 1)) = true
        · go_wp2_with fail
          refine (isBlank_any _ _).mono ?_
          rintro e w' ⟨rfl, rfl⟩
          go_wp2_with fail
          all_goals
            refine (trimLeft_any _ b (o + (i + k + 2)) (n - (i + k + 2)) _ (fun t => f (i + k + 2 + t)) _ (by omega) (by omega) (fun h => by first | rfl | (exfalso; omega)) (fun t ht => by rw [Nat.add_assoc]; exact hc (i + k + 2 + t) (by omega))).mono ?_
            rintro e w' ⟨d, q, a, c', rfl, rfl, hdq, hd⟩
            have HD := hid hd
            have hdq' : d + q + (i + k + 2) = n := by omega
            clear hd hdq
            go_wp2_with fail
            refine (trimRight_any b o (i + k) _ f _ (by omega) (by omega) (fun t ht => hc t (by omega))).mono ?_
            rintro e w' ⟨m, rfl, rfl, hm⟩
            have HM := hid hm
            clear hm
            go_wp2_with fail
            go_ret3
            refine ⟨rfl, .inr ⟨i + k, m, n - q, ret3 (by first | rfl | (rw [‹c = i + k + 2›]; rfl)) (by omega), ?_⟩⟩
            refine ⟨by omega, ⟨H58.out, .inr hbl⟩, HS.out, HM.out, by omega, by omega, fun j h1 h2 => ?_, fun h => ?_⟩
            · by_cases ej : j = i + k + 1
              · rw [ej]; exact hbl
              · have := show blankB (f (i + k + 2 + (j - (i + k + 2)))) = true from HD.out.2 (j - (i + k + 2)) (by omega)
                rw [show i + k + 2 + (j - (i + k + 2)) = j from by omega] at this
                exact this
            · have := show blankB (f (i + k + 2 + d)) = false from HD.out.1 (by omega)
              rw [show i + k + 2 + d = n - q from by omega] at this
              exact this
        · have hbl' : blankB (f (i + k + 1)) = false := by simpa using hbl
          clear hbl
          go_wp2_with fail
          refine (isBlank_any _ _).mono ?_
          rintro e w' ⟨rfl, rfl⟩
          go_wp2_with fail
          go_round
          case rel =>
            refine ⟨i + k + 1, by omega, by go_num, fun j hj => ?_⟩
            by_cases hj' : j < i + k
            · exact HS.out j hj'
            · obtain rfl : j = i + k := by omega
              intro hs
              rcases hs.2 with h | h
              · omega
              · rw [hbl'] at h; cases h
          case measure => simp [intOf]; omega

theorem firstAt_none {f : Nat → Int} {r : Int} (h : FirstAt f 0 r) : r = -1 := by
  rcases h with ⟨h, _⟩ | ⟨k, hk, _⟩
  · exact h
  · omega

theorem split_empty (b o c : Nat) (f : Nat → Int) (w : World) :
    Calls Try.prog 14 #[.slice (some ⟨b, o, none⟩) 0 c] w (SplitPost b o 0 c f w) := by
  go_enter Try.func14, Try.ntmps14
  go_wp2
  go_loop [5] (fun t => t = .int .i64 0) (fun t => 0)
  case atStart => rfl
  case round =>
    subst hrel
    go_wp2_with fail
    refine (indexByte_any b o 0 c f w (fun t ht => by omega) (fun t ht => by omega)).mono ?_
    rintro e w' ⟨r, rfl, rfl, hfa⟩
    obtain rfl := firstAt_none hfa
    clear hfa
    go_wp2_with fail
    go_ret3
    exact ⟨rfl, .inl ⟨rfl, fun j h => by omega⟩⟩

theorem split_nil (b o c : Nat) (f : Nat → Int) (w : World) :
    Calls Try.prog 14 #[.slice none 0 0] w (SplitPost b o 0 c f w) := by
  go_enter Try.func14, Try.ntmps14
  go_wp2
  go_loop [5] (fun t => t = .int .i64 0) (fun t => 0)
  case atStart => rfl
  case round =>
    subst hrel
    go_wp2_with fail
    refine (indexByte_nil w).mono ?_
    rintro e w' ⟨rfl, rfl⟩
    go_wp2_with fail
    go_ret3
    exact ⟨rfl, .inl ⟨rfl, fun j h => by omega⟩⟩

/-- The slice that the clone hands on: nil, or at the head of a block. -/
def Cloned (w : World) (a : Option Addr) (b n c : Nat) (f : Nat → Int) : Prop :=
  n ≤ 1048576 ∧ n ≤ c ∧ (∀ i, i < n → 0 ≤ f i ∧ f i < 256) ∧ (∀ i, i < n → w.cell? ⟨b, i, none⟩ = some (.int .u8 (f i))) ∧ (a = some ⟨b, 0, none⟩ ∨ (a = none ∧ n = 0 ∧ c = 0))

theorem split_cloned (a : Option Addr) (b n c : Nat) (f : Nat → Int) (w : World) (h : Cloned w a b n c f) :
    Calls Try.prog 14 #[.slice a n c] w (SplitPost b 0 n c f w) := by
  obtain ⟨h1, h2, h3, h4, rfl | ⟨rfl, rfl, rfl⟩⟩ := h
  · by_cases h0 : n = 0
    · subst h0; exact split_empty b 0 c f w
    · exact split_any b 0 n c f w h1 h2 (by omega) h3 (fun i hi => by rw [Nat.zero_add]; exact h4 i hi)
  · exact split_nil b 0 0 f w

theorem zzSplit_cloned (a : Option Addr) (b n c : Nat) (f : Nat → Int) (w : World) (h : Cloned w a b n c f) :
    Calls Try.prog 8 #[.slice a n c] w (SplitPost b 0 n c f w) := by
  have H := hid h
  clear h
  go_enter Try.func8, Try.ntmps8
  go_wp2_with fail
  refine (split_cloned a b n c f _ H.out).mono ?_
  rintro e w' ⟨rfl, ⟨rfl, hno⟩ | ⟨k, m, off, rfl, hyes⟩⟩
  · have HN := hid hno
    clear hno
    go_wp2_with fail
    go_ret3
    exact ⟨rfl, .inl ⟨rfl, HN.out⟩⟩
  · have HY := hid hyes
    clear hyes
    go_wp2_with fail
    go_ret3
    exact ⟨rfl, .inr ⟨k, m, off, rfl, HY.out⟩⟩

end Go.Proofs.Qxb6000991a
