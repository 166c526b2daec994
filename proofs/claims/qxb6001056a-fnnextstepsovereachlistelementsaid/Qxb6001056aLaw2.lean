/- The second law. -/
import Derived.Test.Qxb6001056aStr
import Derived.Test.Qxb6001056aFlat
namespace Go.Proofs.Qxb6001056a
open Go.ChangeShapes Go.WideShapes Go.ChangeAt Go.RowKit
set_option linter.unusedVariables false

def MainPost2 (w : World) (e : Ending) (w' : World) : Prop := e = .returned (.bool true) ∧ Below w.heap.size w w'

/-- How many bytes the first i strings have. -/
def sumTo (sb : Nat → ByteArray) : Nat → Nat
  | 0 => 0
  | i + 1 => sumTo sb i + (sb i).size

def xs (sb : Nat → ByteArray) (i : Nat) : List Int := bl (sb i)
theorem posOf_sum (sb : Nat → ByteArray) : ∀ i, posOf (xs sb) i = 1 + sumTo sb i
  | 0 => rfl
  | i + 1 => by
    rw [posOf_succ, posOf_sum sb i]
    simp only [xs, bl_length, sumTo]
    omega

/-- The bytes of '[]byte(s)' in the world behind. -/
theorem bytesWorld_row (w : World) (s : ByteArray) : RowAt (Lib.bytesWorld w 5 s) (some ⟨w.heap.size, 0, none⟩) s.size (fun t => (bl s).getD t 0) := by
  refine .inr ⟨w.heap.size, 0, rfl, fun i hi => ?_⟩
  rw [Nat.zero_add, Lib.bytesWorld_cell w 5 s i hi]
  congr 2
  simp [bl, List.getD_eq_getElem?_getD, hi]

theorem bytesWorld_below (w : World) (s : ByteArray) : Below w.heap.size w (Lib.bytesWorld w 5 s) :=
  ⟨rfl, rfl, rfl, by rw [Lib.bytesWorld_size]; omega, fun k hk => Lib.bytesWorld_at_old w 5 s k hk⟩

set_option maxHeartbeats 4000000 in
set_option maxRecDepth 100000 in
theorem law2_any (a : Option Addr) (b o n c : Nat) (sb : Nat → ByteArray) (w : World) (hn : n ≤ maxLen) (ha : 0 < n → a = some ⟨b, o, none⟩) (hb : 0 < n → b < w.heap.size) (h : StrsAt w b o n sb) :
    Calls Try.prog 5 #[.slice a n c] w (MainPost2 w) := by
  obtain ⟨i0, hi, hz0, hz1, hz2⟩ := info_parts Try.info5
  have HZ := hid (zzBytes2_any a b o n c sb w hn ha h)
  unfold maxLen at hn
  have H := hid h
  clear h
  go_enter Try.func5, Try.ntmps5
  go_wp2_with fail
  refine HZ.out.mono ?_
  rintro e w0 ⟨r, rfl, rfl, hr⟩
  cases r with
  | false =>
    go_wp2_with fail
    go_ret
    exact ⟨rfl, Below.refl _ _⟩
  | true =>
    have HR := hid (hr rfl)
    clear HZ hr
    by_cases hn1 : n ≤ 65536
    · go_wp2_with fail
      go_loop [3, 4] (fun x i => ∃ k : Nat, k ≤ n ∧ x = .int .i64 (16 * n + sumTo sb k) ∧ i = .int .i64 k ∧ (16 * (n : Int) + sumTo sb k) ≤ 1048576) (fun _ i => n - (intOf i).toNat)
      case atStart => exact ⟨0, by omega, by go_num, rfl, by simp [sumTo]; omega⟩
      case round =>
        obtain ⟨k, hk, rfl, rfl, hle⟩ := hrel
        by_cases hlt : k < n
        · obtain rfl := ha (by omega)
          obtain ⟨hcell, hsz⟩ := H.out k hlt
          have hsz2 := HR.out k hlt
          clear hsz
          have hs1 : sumTo sb (k + 1) = sumTo sb k + (sb k).size := rfl
          have HS := hid hs1
          clear hs1 ha
          by_cases h2 : (16 * (n : Int) + sumTo sb k) + (sb k).size ≤ 1048576
          · go_wp2_with fail
            go_round
            case rel => exact ⟨k + 1, by omega, by rw [HS.out]; go_num, by go_num, by rw [HS.out]; omega⟩
            case measure => simp [intOf]; omega
          · go_wp2_with fail
            go_ret
            exact ⟨rfl, Below.refl _ _⟩
        · have hle2 : 16 * (n : Int) + sumTo sb n ≤ 1048576 := by
            have e : k = n := by omega
            rw [← e] at hle ⊢; exact hle
          clear hle
          have hcv : ∀ (w : World) (s : ByteArray), (convert 9 22 (.string s)).run Try.prog w = .ok (.slice (some ⟨w.heap.size, 0, none⟩) s.size (grownCap w s.size 0 5)) (Lib.bytesWorld w 5 s) := fun w s => Lib.run_convert_string_bytes w 9 22 5 s Try.underlying9 Try.underlying22 Try.underlying5
          go_wp2_with fail
          go_loopw [5] (fun i wr => ∃ k2 : Nat, k2 ≤ n ∧ i = .int .i64 k2 ∧ Below w0.heap.size w0 wr ∧ ∀ j, j < k2 → Val (fun t => (xs sb j).getD t 0) (xs sb j).length 0 (xs sb j).length) (fun i _ => n - (intOf i).toNat)
          case atStart => exact ⟨0, by omega, rfl, Below.refl _ _, fun j hj => by omega⟩
          case round =>
            obtain ⟨k2, hk2, rfl, hbl, hval⟩ := hrel
            have HBL := hid hbl
            have HVAL := hid hval
            clear hbl hval
            by_cases hlt2 : k2 < n
            · obtain rfl := ha (by omega)
              have hcell2 := (HBL.out.cell (p := ⟨b, o + k2, none⟩) (hb (by omega))).trans (H.out k2 hlt2).1
              have hsz2 := HR.out k2 hlt2
              go_wp2_with fail
              refine (valid_any _ (sb k2).size _ (fun t => (bl (sb k2)).getD t 0) _ (by omega) (bytesWorld_row wr (sb k2))).mono ?_
              rintro e w2 ⟨hw2, kk, ok, rfl, hok⟩
              subst hw2
              have HB2 := hid (HBL.out.trans ((bytesWorld_below wr (sb k2)).mono HBL.out.size))
              cases ok with
              | false =>
                clear hok
                go_wp2_with fail
                go_ret
                exact ⟨rfl, HB2.out⟩
              | true =>
                have HOK := hid (hok rfl)
                clear hok
                go_wp2_with fail
                go_roundw
                case rel =>
                  refine ⟨k2 + 1, by omega, by go_num, HB2.out, fun j hj => ?_⟩
                  by_cases e : j = k2
                  · rw [e]; simp only [xs, bl_length]; exact HOK.out
                  · exact HVAL.out j (by omega)
                case measure => simp [intOf]; omega
            · have HV := hid (fun j (hj : j < n) => HVAL.out j (by omega))
              clear HVAL
              have hsizr := HBL.out.size
              go_wp2_with (at_builtin; refine wpList_append_own _ rfl (.tmp 55) (.tmp 56) 22 rfl w0.heap.size 5 i0 (.int .u8 0) 1 1 Try.underlying22 hi hz0 hz1 hz2 rfl (by decide) (.slice none 0 0) 0 (cl []) rfl (World.ownsRow_nil _ _ _ _) ⟨wr.heap.size, 0, none⟩ 1 1 [.int .u8 108] rfl rfl (cell_one_new' _ _ _) (by intro u hu; simp at hu; subst hu; rfl) (by unfold maxLen; omega) (by omega) (by simp; omega) ?_; intro v1 w1 hown1 hg1 hv1; clear hv1)
              have HO1 : Hid (Owns w1 w0.heap.size v1 (encTo (xs sb) 0)) := owns_snoc rfl hown1
              have HB1 : Hid (Below w0.heap.size w0 w1) := (HBL.out.alloc hsizr _).grown hg1 (by simp; omega) (fun j hj => by cases hj)
              clear hown1 hg1 HBL hcv
              go_loopw [8, 9] (fun v i wr => ∃ k3 : Nat, k3 ≤ n ∧ i = .int .i64 k3 ∧ Owns wr w0.heap.size v (encTo (xs sb) k3) ∧ Below w0.heap.size w0 wr) (fun _ i _ => n - (intOf i).toNat)
              case atStart => exact ⟨0, by omega, rfl, HO1.out, HB1.out⟩
              case round =>
                obtain ⟨k3, hk3, rfl, hown3, hbl3⟩ := hrel
                have HO3 := hid hown3
                have HB3 := hid hbl3
                clear hown3 hbl3 HO1 HB1
                by_cases hlt3 : k3 < n
                · obtain rfl := ha (by omega)
                  have hcell3 := (HB3.out.cell (p := ⟨b, o + k3, none⟩) (hb (by omega))).trans (H.out k3 hlt3).1
                  have hpos3 : (encTo (xs sb) k3).length + (sb k3).size ≤ 2097152 := by
                    have h1 := posOf_succ (xs sb) k3
                    have h2 := posOf_mono (xs sb) (k3 + 1) (n - (k3 + 1))
                    rw [show k3 + 1 + (n - (k3 + 1)) = n from by omega, posOf_sum sb n, h1] at h2
                    have h3 : (xs sb k3).length = (sb k3).size := bl_length _
                    have h4 : posOf (xs sb) k3 = (encTo (xs sb) k3).length := rfl
                    omega
                  have hB3 := HB3.out.size
                  go_wp2_with fail
                  refine (appStr_any _ _ (sb k3) w0.heap.size _ hB3 HO3.out hpos3).mono ?_
                  rintro e w3 ⟨v3, rfl, ho3, hb3⟩
                  have HO4 := hid ho3
                  have HB4 := hid (HB3.out.trans hb3)
                  clear ho3 hb3
                  go_wp2_with fail
                  go_roundw
                  case rel => exact ⟨k3 + 1, by omega, by go_num, by rw [encTo_succ]; exact HO4.out, HB4.out⟩
                  case measure => simp [intOf]; omega
                · have hk3n : k3 = n := by omega
                  have HO5 : Hid (wr.ownsRow w0.heap.size 5 1 u8 (posOf (xs sb) n) (cl (encTo (xs sb) n))) := by have := HO3.out; rw [hk3n] at this; exact this
                  have hpn : posOf (xs sb) n ≤ 1048577 := by rw [posOf_sum]; omega
                  have hB3 := HB3.out.size
                  clear HO3
                  go_wp2_with (at_builtin; refine wpList_append_own _ rfl (.tmp 70) (.tmp 71) 22 rfl w0.heap.size 5 i0 (.int .u8 0) 1 1 Try.underlying22 hi hz0 hz1 hz2 rfl (by decide) u8 (posOf (xs sb) n) (cl (encTo (xs sb) n)) rfl (HO5.out.alloc _) ⟨wr.heap.size, 0, none⟩ 1 1 [.int .u8 101] rfl rfl (cell_one_new' _ _ _) (by intro u hu; simp at hu; subst hu; rfl) (by unfold maxLen; omega) (by omega) (by simp; omega) ?_; intro v4 w4 hown4 hg4 hv4; clear hv4)
                  obtain ⟨N, hN⟩ : ∃ N, N = (encAll (xs sb) n).length := ⟨_, rfl⟩
                  have hNp : N = posOf (xs sb) n + 1 := by rw [hN, encAll_length]
                  have hNle : N ≤ 2097152 := by omega
                  have hNpos : 0 < N := by omega
                  have HOA : Owns w4 w0.heap.size v4 (encAll (xs sb) n) := owns_snoc rfl hown4
                  obtain ⟨g, cap, hv4, hgB, hgw, hcap, hcg⟩ := owns_cells HOA (by omega)
                  rw [← hN] at hv4 hcap hcg
                  subst hv4
                  have HB5 : Hid (Below w0.heap.size w0 w4) := (HB3.out.alloc hB3 _).grown hg4 (by simp; omega) (fun j hj => (HO5.out.lt j hj).1)
                  have HCG := hid hcg
                  have HN := hid hN
                  have HNP := hid hNp
                  have hB5 := HB5.out.size
                  clear hown4 hg4 HOA hcg HB3 HO5 hN hNp hk3n
                  refine (valueOf_any _ N cap _).mono ?_
                  rintro e w5 ⟨rfl, hb5⟩
                  have HB6 := hid (HB5.out.trans (hb5.mono hB5))
                  have HCG5 := hid (fun i (hi : i < N) => (hb5.cell (p := ⟨g, 0 + i, none⟩) hgw).trans (HCG.out i hi))
                  have hgw5 : g < w5.heap.size := by have := hb5.size; omega
                  have hB6 := HB6.out.size
                  clear HCG hb5 HB5
                  go_wp2_with fail
                  go_loopw [11, 12] (fun p i wr => ∃ k4 : Nat, k4 ≤ n ∧ p = .int .i64 (posOf (xs sb) k4) ∧ i = .int .i64 k4 ∧ Below (w5.heap.size + 1) (w5.alloc (.cells #[.slice (some ⟨g, 0, none⟩) N cap] 28)) wr ∧ Below w0.heap.size w0 wr) (fun _ i _ => n - (intOf i).toNat)
                  case atStart => exact ⟨0, by omega, rfl, rfl, Below.refl _ _, HB6.out.alloc hB6 _⟩
                  case round =>
                    obtain ⟨k4, hk4, rfl, rfl, hbw, hbl4⟩ := hrel
                    have hcv4 : wr.cell? ⟨w5.heap.size, 0, none⟩ = some (.slice (some ⟨g, 0, none⟩) N cap) := by
                      rw [hbw.cell (p := ⟨w5.heap.size, 0, none⟩) (Nat.lt_succ_self _)]
                      simp
                    have HCW := hid (fun i (hi : i < N) => show wr.cell? ⟨g, 0 + i, none⟩ = some (.int .u8 (encF (xs sb) n i)) from by
                      rw [hbw.cell (p := ⟨g, 0 + i, none⟩) (by show g < _; omega), World.cell?_alloc_past _ _ _ hgw5]
                      exact HCG5.out i hi)
                    have hgwr : g < wr.heap.size := by have := hbw.size; simp at this; omega
                    have hszr : w5.heap.size + 1 ≤ wr.heap.size := by have := hbw.size; simpa using this
                    have HBW := hid hbw
                    have HB7 := hid hbl4
                    clear hbw hbl4
                    by_cases hlt4 : k4 < n
                    · obtain rfl := ha (by omega)
                      have hcell4 := (HB7.out.cell (p := ⟨b, o + k4, none⟩) (hb (by omega))).trans (H.out k4 hlt4).1
                      have hgot : ((posOf (xs sb) (k4 + 1) : Int) != posOf (xs sb) k4 + (sb k4).size) = false := by
                        rw [posOf_succ]
                        have h3 : (xs sb k4).length = (sb k4).size := bl_length _
                        rw [h3]; simp
                      have hpb : posOf (xs sb) k4 ≤ 1048577 := by
                        have h2 := posOf_mono (xs sb) k4 (n - k4)
                        rw [show k4 + (n - k4) = n from by omega] at h2
                        omega
                      have hszs := HR.out k4 hlt4
                      go_wp2_with fail
                      refine (zzNext_any g 0 N cap (posOf (xs sb) k4) (posOf (xs sb) (k4 + 1)) (encF (xs sb) n) _ hNle hcap hgwr (fun i _ => encF_range (xs sb) (fun j => bl_range (sb j)) n i) (by rw [HN.out]; exact val_row (xs sb) n k4 hlt4 (HV.out k4 hlt4)) HCW.out).mono ?_
                      rintro e w7 ⟨rfl, hb7⟩
                      have HB8 := hid (HB7.out.trans (hb7.mono HB7.out.size))
                      have HBW8 := hid (HBW.out.trans (hb7.mono hszr))
                      have hcell7 : w7.cell? ⟨b, o + k4, none⟩ = some (.string (sb k4)) := (HB8.out.cell (p := ⟨b, o + k4, none⟩) (hb (by omega))).trans (H.out k4 hlt4).1
                      clear hb7 hcell4 hcv4 HCW
                      go_wp2_with fail
                      go_roundw
                      case rel => exact ⟨k4 + 1, by omega, rfl, by go_num, HBW8.out, HB8.out⟩
                      case measure => simp [intOf]; omega
                    · have hk4n : Hid (k4 = n) := hid (by omega)
                      have hne : ((posOf (xs sb) k4 : Int) != (N : Int) - 1) = false := by
                        rw [hk4n.out, HNP.out]; simp
                      go_wp2_with fail
                      refine (zzNext_any g 0 N cap 0 N (encF (xs sb) n) _ hNle hcap hgwr (fun i _ => encF_range (xs sb) (fun j => bl_range (sb j)) n i) (by rw [HN.out]; exact val_whole (xs sb) n HV.out) HCW.out).mono ?_
                      rintro e w7 ⟨rfl, hb7⟩
                      have HB8 := hid (HB7.out.trans (hb7.mono HB7.out.size))
                      clear hb7 hcv4 HCW
                      go_wp2_with fail
                      go_ret
                      exact ⟨rfl, HB8.out⟩
    · go_wp2_with fail
      go_ret
      exact ⟨rfl, Below.refl _ _⟩

end Go.Proofs.Qxb6001056a
