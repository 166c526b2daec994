/- The law at an open tag. -/
import Derived.Test.Qxb6001283aClose
namespace Go.Proofs.Qxb6001283a
open Go.ChangeShapes Go.WideShapes Go.ChangeAt Go.RowKit
set_option linter.unusedVariables false

set_option maxHeartbeats 4000000 in
set_option maxRecDepth 100000 in
theorem law_open_a (a0 a1 a2 : Option Addr) (n0 c0 n1 c1 n2 c2 : Nat) (f0 f1 f2 : Nat → Int) (y : Bool) (w : World) (hn : n0 + n1 + n2 ≤ 1048576)
    (h0 : CameIn w a0 n0 c0 f0) (h1 : CameIn w a1 n1 c1 f1) (h2 : CameIn w a2 n2 c2 f2) :
    Calls Try.prog 8 #[.slice a0 n0 c0, .slice a1 n1 c1, .slice a2 n2 c2, .bool false, .bool y, .bool false] w (MainPost w) := by
  have hmk := make_run (n0 + n1 + n2 + 16) ((n0 : Int) + n1 + n2 + 16) (by omega) (by omega)
  have H0 := hid h0
  have H1 := hid h1
  have H2 := hid h2
  have F0 := hid h0.1
  have F2 := hid h2.1
  have F1 := hid h1.1
  clear h0 h1 h2
  go_enter Try.func8, Try.ntmps8
  go_wp2_with fail
  refine (zzBytes_yes a0 a1 a2 n0 c0 n1 c1 n2 c2 false y false w hn).mono ?_
  rintro e _ ⟨rfl, rfl⟩
  go_wp2_with fail
  refine (clone_any a0 n0 c0 f0 _ (by omega) H0.out).mono ?_
  rintro e w1 ⟨d0, k0, rfl, hb1, hc1⟩
  have I1 := hid (cameIn_below H1.out hb1)
  have I2 := hid (cameIn_below H2.out hb1)
  have C0 := hid (cl_of hc1)
  have B1 := hid hb1
  clear hb1 hc1
  go_wp2_with fail
  refine (clone_any a1 n1 c1 f1 _ (by omega) I1.out).mono ?_
  rintro e w2 ⟨d1, k1, rfl, hb2, hc2⟩
  have J2 := hid (cameIn_below I2.out hb2)
  have C0' := hid (cl_below C0.out hb2)
  have C1 := hid (cl_of hc2)
  have B2 := hid (B1.out.trans (hb2.mono B1.out.size))
  clear hb2 hc2 I1 I2 C0 B1
  go_wp2_with fail
  refine (clone_any a2 n2 c2 f2 _ (by omega) J2.out).mono ?_
  rintro e w3 ⟨d2, k2, rfl, hb3, hc3⟩
  have C0 := hid (cl_below C0'.out hb3)
  have C1' := hid (cl_below C1.out hb3)
  have C2 := hid (cl_of hc3)
  have B3 := hid (B2.out.trans (hb3.mono B2.out.size))
  clear hb3 hc3 J2 C0' C1 B2 H0 H1 H2
  have hom := hid (owns_made w3 (n0 + n1 + n2 + 16) (by omega))
  have hbm : Hid (Below w3.heap.size w3 (w3.alloc (.cells (madeCells #[.int .u8 0] (n0 + n1 + n2 + 16)) 5))) := hid ((Below.refl _ _).alloc (Nat.le_refl _) _)
  go_wp2_with (at_builtin; refine stand ?_)
  refine goOn ?_
  refine wpList_app rfl (.tmp 68) (.tmp 69) rfl w3 _ [] [60] _ rfl rfl (by simp) hom.out hbm.out (by simp) ?_
  intro v2 w5 ho2 hb5
  clear hom hbm
  by_cases hn0 : n0 = 0
  case' pos =>
    have t0 : ((n0 : Int) == 0) = true := by rw [beq_iff_eq]; omega
    go_wp2_with (at_builtin; refine stand ?_)
    refine goOn ?_
    refine wpList_app rfl (.tmp 78) (.tmp 79) rfl w3 _ _ [112] _ rfl rfl rfl ho2 hb5 (by simp) ?_
    intro v3 w6 ho3 hb6
    obtain ⟨nm, hnm, hnl, hoN⟩ : ∃ nm, NameOk nm ∧ nm.length ≤ n0 + 1 ∧ Owns w6 w3.heap.size v3 ([60] ++ nm) := ⟨[112], nameOk_one (by omega) (by omega) (by decide), by simp, ho3⟩
    have hbN := hb6
    clear ho2 hb5 ho3 hb6 t0
    go_wp2_with (at_builtin; refine stand ?_)
  case' neg =>
    have t0 : ((n0 : Int) == 0) = false := by rw [beq_eq_false_iff_ne]; omega
    obtain ⟨g0, rfl, hg0, hcl0⟩ := C0.out (by omega)
    have hce := (hb5.cell (p := ⟨g0, 0, none⟩) hg0).trans (hcl0 0 (by omega))
    have HC0 := hid hcl0
    clear hcl0
    go_wp2_with (at_builtin; refine stand ?_)
    refine (nameFirst_any _ _ (F0.out 0 (by omega))).mono ?_
    rintro e w5 ⟨rfl, x, rfl, hx0, hx1, hx2⟩
    go_wp2_with (at_builtin; refine stand ?_)
    refine goOn ?_
    refine wpList_app rfl (.tmp 81) (.tmp 86) rfl w3 _ _ [x] _ rfl rfl rfl ho2 hb5 (by simp) ?_
    intro v3 w6 ho3 hb6
    have hN1 := hid (nameOk_one hx0 hx1 hx2)
    clear ho2 hb5 t0 hce hx0 hx1 hx2
    go_wp2_with (at_builtin; refine stand ?_)
    go_loopw [15, 16] (fun v i wr => ∃ (k : Nat) (nm : List Int), 1 ≤ k ∧ k ≤ n0 ∧ i = .int .i64 k ∧ nm.length = k ∧ NameOk nm ∧ Owns wr w3.heap.size v ([60] ++ nm) ∧ Below w3.heap.size w3 wr) (fun _ i _ => n0 - (intOf i).toNat)
    case' atStart => exact ⟨1, [x], by omega, by omega, rfl, rfl, hN1.out, ho3, hb6⟩
    case' round =>
      obtain ⟨k, nm, hk1, hk2, rfl, hnk, hnm, hoN, hbN⟩ := hrel
      have HNK := hid hnk
      clear hnk hN1 ho3 hb6
      by_cases hlt : k < n0
      case' pos =>
        have hce := (hbN.cell (p := ⟨g0, k, none⟩) hg0).trans (HC0.out k hlt)
        have hll : ([60] ++ nm).length + 1 ≤ 2097152 := by have := HNK.out; simp; omega
        go_wp2_with (at_builtin; refine stand ?_)
        refine (nameByte_any _ _ (F0.out k hlt)).mono ?_
        rintro e wn ⟨rfl, yy, rfl, hy0, hy1, hy2⟩
        go_wp2_with (at_builtin; refine stand ?_)
        refine goOn ?_
        refine wpList_app rfl (.tmp 94) (.tmp 100) rfl w3 _ _ [yy] _ rfl rfl rfl hoN hbN hll ?_
        intro v4 w7 ho4 hb7
        have HS := hid (nameOk_snoc hnm hy0 hy1 hy2)
        clear hoN hbN hnm hy0 hy1 hy2 hce
        go_wp2_with (at_builtin; refine stand ?_)
        go_roundw
        case' rel => exact ⟨k + 1, nm ++ [yy], by omega, by omega, by go_num, by rw [List.length_append, HNK.out]; rfl, HS.out, by rw [List.append_assoc] at ho4; exact ho4, hb7⟩
        case' measure => simp [intOf]; omega
      case' neg =>
        have hnl : nm.length ≤ n0 + 1 := by have := HNK.out; omega
        clear HNK
        go_wp2_with (at_builtin; refine stand ?_)
  all_goals
    refine goOn ?_
    refine wpList_app rfl (.tmp 106) (.tmp 108) rfl w3 _ _ [32, 120, 61, 34] _ rfl rfl rfl hoN hbN (by simp; omega) ?_
    intro vP wP hoP0 hbP
    obtain ⟨P, hP⟩ : ∃ P, P = [60] ++ nm ++ [32, 120, 61, 34] := ⟨_, rfl⟩
    have hoP : Owns wP w3.heap.size vP P := by rw [hP]; exact hoP0
    have hPl : P.length ≤ n0 + 10 := by rw [hP]; simp; omega
    have HP := hid hP
    have HNM := hid hnm
    clear hP hoP0 hoN hbN hnm hnl
    go_wp2_with (at_builtin; refine stand ?_)
    go_loopw [15, 17] (fun v i wr => ∃ (k : Nat) (vl : List Int), k ≤ n1 ∧ i = .int .i64 k ∧ vl.length = k ∧ Bytes vl ∧ (∀ x ∈ vl, x ≠ 34) ∧ Owns wr w3.heap.size v (P ++ vl) ∧ Below w3.heap.size w3 wr) (fun _ i _ => n1 - (intOf i).toNat)
    case' atStart => exact ⟨0, [], by omega, rfl, rfl, fun x hx => by simp at hx, fun x hx => by simp at hx, by rw [List.append_nil]; exact hoP, hbP⟩
    case' round =>
      obtain ⟨kv, vl, hkv, rfl, hvk, hvb, hvq, hoV, hbV⟩ := hrel
      have HVK := hid hvk
      have HVB := hid hvb
      have HVQ := hid hvq
      clear hvk hvb hvq hoP hbP
      have hlv : (P ++ vl).length + 1 ≤ 2097152 := by have := HVK.out; rw [List.length_append]; omega
      by_cases hlt : kv < n1
      case' pos =>
        obtain ⟨g1, rfl, hg1, hcl1⟩ := C1'.out (by omega)
        have hce := (hbV.cell (p := ⟨g1, kv, none⟩) hg1).trans (hcl1 kv hlt)
        clear hcl1
        have hfr := hid (F1.out kv hlt)
        obtain ⟨y1, hy1⟩ : ∃ y1 : Int, y1 = f1 kv := ⟨_, rfl⟩
        rw [← hy1] at hce
        have HY1 := hid hy1
        clear hy1
        by_cases hq : y1 = 34
        case' pos =>
          have hqb : (y1 == 34) = true := by rw [hq]; decide
          clear hq
          go_wp2_with (at_builtin; refine stand ?_)
          refine goOn ?_
          refine wpList_app rfl (.tmp 124) (.tmp 126) rfl w3 _ _ [39] _ rfl rfl rfl hoV hbV hlv ?_
          intro v4 w7 ho4 hb7
          clear hoV hbV hce
          go_wp2_with (at_builtin; refine stand ?_)
          go_roundw
          case' rel => exact ⟨kv + 1, vl ++ [39], by omega, by go_num, by rw [List.length_append, HVK.out]; rfl, bytes_append HVB.out (fun x hx => by simp at hx; omega), fun x hx => by rcases List.mem_append.1 hx with hx | hx; exact HVQ.out x hx; simp at hx; omega, by rw [List.append_assoc] at ho4; exact ho4, hb7⟩
          case' measure => simp [intOf]; omega
        case' neg =>
          have hqb : (y1 == 34) = false := by rw [beq_eq_false_iff_ne]; exact hq
          go_wp2_with (at_builtin; refine stand ?_)
          refine goOn ?_
          refine wpList_app rfl (.tmp 124) (.tmp 126) rfl w3 _ _ [y1] _ rfl rfl rfl hoV hbV hlv ?_
          intro v4 w7 ho4 hb7
          clear hoV hbV hce
          go_wp2_with (at_builtin; refine stand ?_)
          go_roundw
          case' rel => exact ⟨kv + 1, vl ++ [y1], by omega, by go_num, by rw [List.length_append, HVK.out]; rfl, bytes_append HVB.out (fun x hx => by simp at hx; rw [hx, HY1.out]; exact hfr.out), fun x hx => by rcases List.mem_append.1 hx with hx | hx; exact HVQ.out x hx; simp at hx; rw [hx]; exact hq, by rw [List.append_assoc] at ho4; exact ho4, hb7⟩
          case' measure => simp [intOf]; omega
      case' neg =>
        have hvl : vl.length ≤ n1 := by have := HVK.out; omega
        go_wp2_with (at_builtin; refine stand ?_)
        refine goOn ?_
        refine wpList_app rfl (.tmp 128) (.tmp 130) rfl w3 _ _ [34] _ rfl rfl rfl hoV hbV (by simp at hlv ⊢; omega) ?_
        intro v5 w8 ho5 hb8
        clear hoV hbV
        have hl5 : (P ++ vl ++ [34]).length ≤ n0 + n1 + 11 := by simp; omega
        cases y
        case' false =>
          go_wp2_with (at_builtin; refine stand ?_)
          refine goOn ?_
          refine wpList_app rfl (.tmp 136) (.tmp 137) rfl w3 _ _ [62] _ rfl rfl rfl ho5 hb8 (by have := hl5; simp at this ⊢; omega) ?_
          intro vT wT hoT0 hbT
          obtain ⟨T, hT⟩ : ∃ T, T = P ++ vl ++ [34] ++ [62] := ⟨_, rfl⟩
          have hoT : Owns wT w3.heap.size vT T := by rw [hT]; exact hoT0
          have HT : Hid (TagOk T) := hid (by
            have := tagOk_open nm vl 34 [62] HNM.out (by omega) HVB.out HVQ.out (.inl rfl)
            rw [hT, HP.out]
            simpa [List.append_assoc] using this)
          have hTl : T.length ≤ 1048676 - n2 := by rw [hT, List.length_append]; simp only [List.length_singleton]; omega
          clear hT hoT0 ho5 hb8 hl5
        case' true =>
          go_wp2_with (at_builtin; refine stand ?_)
          refine goOn ?_
          refine wpList_app rfl (.tmp 133) (.tmp 134) rfl w3 _ _ [47] _ rfl rfl rfl ho5 hb8 (by have := hl5; simp at this ⊢; omega) ?_
          intro v6 w9 ho6 hb9
          clear ho5 hb8
          go_wp2_with (at_builtin; refine stand ?_)
          refine goOn ?_
          refine wpList_app rfl (.tmp 136) (.tmp 137) rfl w3 _ _ [62] _ rfl rfl rfl ho6 hb9 (by have := hl5; simp at this ⊢; omega) ?_
          intro vT wT hoT0 hbT
          obtain ⟨T, hT⟩ : ∃ T, T = P ++ vl ++ [34] ++ [47] ++ [62] := ⟨_, rfl⟩
          have hoT : Owns wT w3.heap.size vT T := by rw [hT]; exact hoT0
          have HT : Hid (TagOk T) := hid (by
            have := tagOk_open nm vl 34 [47, 62] HNM.out (by omega) HVB.out HVQ.out (.inr rfl)
            rw [hT, HP.out]
            simpa [List.append_assoc] using this)
          have hTl : T.length ≤ 1048676 - n2 := by rw [hT, List.length_append, List.length_append]; simp only [List.length_singleton]; omega
          clear hT hoT0 ho6 hb9 hl5
        all_goals
          clear HVK HVB HVQ HP HNM
          obtain ⟨gT, capT, hvT, hgT, hcapT, hcT⟩ := owns_cells hoT HT.out.2.1
          subst hvT
          clear hcT hgT hcapT
          go_wp2_with (at_builtin; refine stand ?_)
          go_loopw [15, 20] (fun v i wr => ∃ (k : Nat) (rl : List Int), k ≤ n2 ∧ i = .int .i64 k ∧ rl.length = k ∧ Bytes rl ∧ Owns wr w3.heap.size v (T ++ rl) ∧ Below w3.heap.size w3 wr) (fun _ i _ => n2 - (intOf i).toNat)
          case' atStart => exact ⟨0, [], by omega, rfl, rfl, fun x hx => by simp at hx, by rw [List.append_nil]; exact hoT, hbT⟩
          case' round =>
            obtain ⟨k, rl, hk2, rfl, hrk, hrb, hoR, hbR⟩ := hrel
            have HRK := hid hrk
            have HRB := hid hrb
            clear hrk hrb hoT hbT
            have hll : (T ++ rl).length + 1 ≤ 2097152 := by have := HRK.out; rw [List.length_append]; omega
            by_cases hlt : k < n2
            case' pos =>
              obtain ⟨g2, rfl, hg2, hcl2⟩ := C2.out (by omega)
              have hce := (hbR.cell (p := ⟨g2, k, none⟩) hg2).trans (hcl2 k hlt)
              clear hcl2
              have hfr := hid (F2.out k hlt)
              go_wp2_with (at_builtin; refine stand ?_)
              refine goOn ?_
              refine wpList_app rfl (.tmp 147) (.tmp 152) rfl w3 _ _ [f2 k] _ rfl rfl rfl hoR hbR hll ?_
              intro v4 w7 ho4 hb7
              clear hoR hbR hce
              go_wp2_with (at_builtin; refine stand ?_)
              go_roundw
              case' rel => exact ⟨k + 1, rl ++ [f2 k], by omega, by go_num, by rw [List.length_append, HRK.out]; rfl, bytes_append HRB.out (fun x hx => by simp at hx; rw [hx]; exact hfr.out), by rw [List.append_assoc] at ho4; exact ho4, hb7⟩
              case' measure => simp [intOf]; omega
            case' neg =>
              obtain ⟨gR, capR, hvR, hgR, hcapR, hcR⟩ := owns_cells hoR (by have := HT.out.2.1; rw [List.length_append]; omega)
              subst hvR
              have HCR := hid hcR
              have HBR := hid hbR
              clear hcR hoR hbR
              go_wp2_with (at_builtin; refine stand ?_)
              refine (zzWhole_at T rl HT.out HRB.out (by omega) gR capR _ _ List.length_append.symm hcapR HCR.out).mono ?_
              rintro e wf ⟨rfl, rfl⟩
              go_wp2_with fail
              go_ret
              exact ⟨rfl, B3.out.trans (HBR.out.mono B3.out.size)⟩

end Go.Proofs.Qxb6001283a
