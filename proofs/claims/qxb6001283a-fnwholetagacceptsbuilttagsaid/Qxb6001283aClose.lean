/- The law at a closing tag. -/
import Derived.Test.Qxb6001283aBuild
namespace Go.Proofs.Qxb6001283a
open Go.ChangeShapes Go.WideShapes Go.ChangeAt Go.RowKit
set_option linter.unusedVariables false

theorem zzBytes_yes (a a' a'' : Option Addr) (n c n' c' n'' c'' : Nat) (x y z : Bool) (w : World) (h : n + n' + n'' ≤ 1048576) :
    Calls Try.prog 22 #[.slice a n c, .slice a' n' c', .slice a'' n'' c'', .bool x, .bool y, .bool z] w fun e w' => e = .returned (.bool true) ∧ w' = w := by
  go_enter Try.func22, Try.ntmps22
  go_wp2
  go_ret
  exact ⟨rfl, rfl⟩

theorem zzWhole_any (T rl : List Int) (h : TagOk T) (hr : Bytes rl) (hlen : (T ++ rl).length ≤ 2097152) (b c : Nat) (w : World) (hc : (T ++ rl).length ≤ c)
    (hcell : ∀ i, i < (T ++ rl).length → w.cell? ⟨b, 0 + i, none⟩ = some (.int .u8 ((T ++ rl).getD i 0))) :
    Calls Try.prog 19 #[.slice (some ⟨b, 0, none⟩) (T ++ rl).length c] w (IntPost w T.length) := by
  have H := hid (h.2.2 rl hr hlen b c w hc hcell)
  generalize T ++ rl = L at *
  clear hcell
  go_enter Try.func19, Try.ntmps19
  go_wp2_with fail
  refine H.out.mono ?_
  rintro e _ ⟨rfl, rfl⟩
  go_wp2_with fail
  go_ret
  exact ⟨rfl, rfl⟩

theorem zzWhole_at (T rl : List Int) (h : TagOk T) (hr : Bytes rl) (hlen : (T ++ rl).length ≤ 2097152) (b c N : Nat) (w : World) (hN : N = (T ++ rl).length) (hc : (T ++ rl).length ≤ c)
    (hcell : ∀ i, i < (T ++ rl).length → w.cell? ⟨b, 0 + i, none⟩ = some (.int .u8 ((T ++ rl).getD i 0))) :
    Calls Try.prog 19 #[.slice (some ⟨b, 0, none⟩) N c] w (IntPost w T.length) := by
  subst hN
  exact zzWhole_any T rl h hr hlen b c w hc hcell

theorem make_run (N : Nat) (c : Int) (hc : c = N) (hN : N ≤ 2097152) (w : World) :
    (Instr.makeSlice 22 (.int .i64 0) (.int .i64 c)).run Try.prog w = .ok (.slice (some ⟨w.heap.size, 0, none⟩) 0 N) (w.alloc (.cells (madeCells #[.int .u8 0] N) 5)) := by
  obtain ⟨i, hi, hz, hs, hb⟩ := info_parts Try.info5
  subst hc
  have hr := run_make (P := Try.prog) w 22 5 i (.int .u8 0) Try.underlying22 hi hz .i64 .i64 0 N (by omega) (by omega) (by rw [hb]; omega) (by omega)
  have e : (Value.int .u8 0).cells = #[Value.int .u8 0] := rfl
  rw [hs, e] at hr
  simpa using hr

/-- Where the walk is to stand. -/
def Stand (p : Prop) : Prop := p
theorem stand {p : Prop} (h : Stand p) : p := h
theorem goOn {p : Prop} (h : p) : Stand p := h

/-- A clone, seen in a later world. -/
def Cl (w : World) (a : Option Addr) (n : Nat) (f : Nat → Int) : Prop :=
  0 < n → ∃ g, a = some ⟨g, 0, none⟩ ∧ g < w.heap.size ∧ ∀ i, i < n → w.cell? ⟨g, i, none⟩ = some (.int .u8 (f i))

theorem cl_of {w w' : World} {a : Option Addr} {n : Nat} {f : Nat → Int} (h : 0 < n → a = some ⟨w.heap.size, 0, none⟩ ∧ w.heap.size < w'.heap.size ∧ ∀ i, i < n → w'.cell? ⟨w.heap.size, i, none⟩ = some (.int .u8 (f i))) : Cl w' a n f :=
  fun hn => ⟨w.heap.size, (h hn).1, (h hn).2.1, (h hn).2.2⟩

theorem cl_below {w w' : World} {a : Option Addr} {n : Nat} {f : Nat → Int} (h : Cl w a n f) (hb : Below w.heap.size w w') : Cl w' a n f := fun hn => by
  obtain ⟨g, ha, hg, hc⟩ := h hn
  exact ⟨g, ha, Nat.lt_of_lt_of_le hg hb.size, fun i hi => (hb.cell (p := ⟨g, i, none⟩) hg).trans (hc i hi)⟩

theorem owns_made (w : World) (N : Nat) (hN : N ≤ 2097152) : Owns (w.alloc (.cells (madeCells #[.int .u8 0] N) 5)) w.heap.size (.slice (some ⟨w.heap.size, 0, none⟩) 0 N) [] :=
  World.ownsRow_made w _ N (Nat.le_refl _) (by unfold maxLen; omega) (by rw [size_madeCells]; omega)

def MainPost (w : World) (e : Ending) (w' : World) : Prop := e = .returned (.bool true) ∧ Below w.heap.size w w'

set_option maxHeartbeats 4000000 in
set_option maxRecDepth 100000 in
theorem law_close (a0 a1 a2 : Option Addr) (n0 c0 n1 c1 n2 c2 : Nat) (f0 f1 f2 : Nat → Int) (y z : Bool) (w : World) (hn : n0 + n1 + n2 ≤ 1048576)
    (h0 : CameIn w a0 n0 c0 f0) (h1 : CameIn w a1 n1 c1 f1) (h2 : CameIn w a2 n2 c2 f2) :
    Calls Try.prog 8 #[.slice a0 n0 c0, .slice a1 n1 c1, .slice a2 n2 c2, .bool true, .bool y, .bool z] w (MainPost w) := by
  have hmk := make_run (n0 + n1 + n2 + 16) ((n0 : Int) + n1 + n2 + 16) (by omega) (by omega)
  have H0 := hid h0
  have H1 := hid h1
  have H2 := hid h2
  have F0 := hid h0.1
  have F2 := hid h2.1
  clear h0 h1 h2
  go_enter Try.func8, Try.ntmps8
  go_wp2_with fail
  refine (zzBytes_yes a0 a1 a2 n0 c0 n1 c1 n2 c2 true y z w hn).mono ?_
  rintro e _ ⟨rfl, rfl⟩
  go_wp2_with fail
  refine (clone_any a0 n0 c0 f0 _ (by omega) H0.out).mono ?_
  rintro e w1 ⟨d0, k0, rfl, hb1, hc1⟩
  have I1 := hid (cameIn_below H1.out hb1)
  have I2 := hid (cameIn_below H2.out hb1)
  have C0 := hid (cl_of hc1)
  have B1 := hid hb1
  clear hb1 hc1
  go_wp2_with fail
  refine (clone_any a1 n1 c1 f1 _ (by omega) I1.out).mono ?_
  rintro e w2 ⟨d1, k1, rfl, hb2, hc2⟩
  have J2 := hid (cameIn_below I2.out hb2)
  have C0' := hid (cl_below C0.out hb2)
  have C1 := hid (cl_of hc2)
  have B2 := hid (B1.out.trans (hb2.mono B1.out.size))
  clear hb2 hc2 I1 I2 C0 B1
  go_wp2_with fail
  refine (clone_any a2 n2 c2 f2 _ (by omega) J2.out).mono ?_
  rintro e w3 ⟨d2, k2, rfl, hb3, hc3⟩
  have C0 := hid (cl_below C0'.out hb3)
  have C1' := hid (cl_below C1.out hb3)
  have C2 := hid (cl_of hc3)
  have B3 := hid (B2.out.trans (hb3.mono B2.out.size))
  clear hb3 hc3 J2 C0' C1 B2 H0 H1 H2
  have hom := hid (owns_made w3 (n0 + n1 + n2 + 16) (by omega))
  have hbm : Hid (Below w3.heap.size w3 (w3.alloc (.cells (madeCells #[.int .u8 0] (n0 + n1 + n2 + 16)) 5))) := hid ((Below.refl _ _).alloc (Nat.le_refl _) _)
  cases z
  all_goals
    go_wp2_with (at_builtin; refine stand ?_)
    refine goOn ?_
    refine wpList_app rfl (.tmp 68) (.tmp 69) rfl w3 _ [] [60] _ rfl rfl (by simp) hom.out hbm.out (by simp) ?_
    intro v1 w4 ho1 hb4
    clear hom hbm
    go_wp2_with (at_builtin; refine stand ?_)
    refine goOn ?_
    refine wpList_app rfl (.tmp 72) (.tmp 73) rfl w3 _ _ [47] _ rfl rfl rfl ho1 hb4 (by simp) ?_
    intro v2 w5 ho2 hb5
    clear ho1 hb4
    by_cases hn0 : n0 = 0
    case' pos =>
      have t0 : ((n0 : Int) == 0) = true := by rw [beq_iff_eq]; omega
      go_wp2_with (at_builtin; refine stand ?_)
      refine goOn ?_
      refine wpList_app rfl (.tmp 78) (.tmp 79) rfl w3 _ _ [112] _ rfl rfl rfl ho2 hb5 (by simp) ?_
      intro v3 w6 ho3 hb6
      obtain ⟨nm, hnm, hnl, hoN⟩ : ∃ nm, NameOk nm ∧ nm.length ≤ n0 + 1 ∧ Owns w6 w3.heap.size v3 ([60, 47] ++ nm) := ⟨[112], nameOk_one (by omega) (by omega) (by decide), by simp, ho3⟩
      have hbN := hb6
      clear ho2 hb5 ho3 hb6 t0
      go_wp2_with (at_builtin; refine stand ?_)
    case' neg =>
      have t0 : ((n0 : Int) == 0) = false := by rw [beq_eq_false_iff_ne]; omega
      obtain ⟨g0, rfl, hg0, hcl0⟩ := C0.out (by omega)
      have hce := (hb5.cell (p := ⟨g0, 0, none⟩) hg0).trans (hcl0 0 (by omega))
      have HC0 := hid hcl0
      clear hcl0
      go_wp2_with (at_builtin; refine stand ?_)
      refine (nameFirst_any _ _ (F0.out 0 (by omega))).mono ?_
      rintro e w5 ⟨rfl, x, rfl, hx0, hx1, hx2⟩
      go_wp2_with (at_builtin; refine stand ?_)
      refine goOn ?_
      refine wpList_app rfl (.tmp 81) (.tmp 86) rfl w3 _ _ [x] _ rfl rfl rfl ho2 hb5 (by simp) ?_
      intro v3 w6 ho3 hb6
      have hN1 := hid (nameOk_one hx0 hx1 hx2)
      clear ho2 hb5 t0 hce hx0 hx1 hx2
      go_wp2_with (at_builtin; refine stand ?_)
      go_loopw [15, 16] (fun v i wr => ∃ (k : Nat) (nm : List Int), 1 ≤ k ∧ k ≤ n0 ∧ i = .int .i64 k ∧ nm.length = k ∧ NameOk nm ∧ Owns wr w3.heap.size v ([60, 47] ++ nm) ∧ Below w3.heap.size w3 wr) (fun _ i _ => n0 - (intOf i).toNat)
      case' atStart => exact ⟨1, [x], by omega, by omega, rfl, rfl, hN1.out, ho3, hb6⟩
      case' round =>
        obtain ⟨k, nm, hk1, hk2, rfl, hnk, hnm, hoN, hbN⟩ := hrel
        have HNK := hid hnk
        clear hnk hN1 ho3 hb6
        by_cases hlt : k < n0
        case' pos =>
          have hce := (hbN.cell (p := ⟨g0, k, none⟩) hg0).trans (HC0.out k hlt)
          have hll : ([60, 47] ++ nm).length + 1 ≤ 2097152 := by have := HNK.out; simp; omega
          go_wp2_with (at_builtin; refine stand ?_)
          refine (nameByte_any _ _ (F0.out k hlt)).mono ?_
          rintro e wn ⟨rfl, yy, rfl, hy0, hy1, hy2⟩
          go_wp2_with (at_builtin; refine stand ?_)
          refine goOn ?_
          refine wpList_app rfl (.tmp 94) (.tmp 100) rfl w3 _ _ [yy] _ rfl rfl rfl hoN hbN hll ?_
          intro v4 w7 ho4 hb7
          have HS := hid (nameOk_snoc hnm hy0 hy1 hy2)
          clear hoN hbN hnm hy0 hy1 hy2 hce
          go_wp2_with (at_builtin; refine stand ?_)
          go_roundw
          case' rel => exact ⟨k + 1, nm ++ [yy], by omega, by omega, by go_num, by rw [List.length_append, HNK.out]; rfl, HS.out, by rw [List.append_assoc] at ho4; exact ho4, hb7⟩
          case' measure => simp [intOf]; omega
        case' neg =>
          have hnl : nm.length ≤ n0 + 1 := by have := HNK.out; omega
          clear HNK
          go_wp2_with (at_builtin; refine stand ?_)
    all_goals
      refine goOn ?_
      refine wpList_app rfl (.tmp 103) (.tmp 104) rfl w3 _ _ [32, 9, 62] _ rfl rfl rfl hoN hbN (by simp; omega) ?_
      intro vT wT hoT0 hbT
      obtain ⟨T, hT⟩ : ∃ T, T = [60, 47] ++ nm ++ [32, 9, 62] := ⟨_, rfl⟩
      have hoT : Owns wT w3.heap.size vT T := by rw [hT]; exact hoT0
      have HT : Hid (TagOk T) := hid (by rw [hT, List.append_assoc]; exact tagOk_close nm hnm)
      have hTl : T.length ≤ 1048676 - n2 := by rw [hT]; simp; omega
      clear hT hoT0 hoN hbN hnm
      obtain ⟨gT, capT, hvT, hgT, hcapT, hcT⟩ := owns_cells hoT HT.out.2.1
      subst hvT
      clear hcT hgT hcapT
      go_wp2_with (at_builtin; refine stand ?_)
      go_loopw [15, 20] (fun v i wr => ∃ (k : Nat) (rl : List Int), k ≤ n2 ∧ i = .int .i64 k ∧ rl.length = k ∧ Bytes rl ∧ Owns wr w3.heap.size v (T ++ rl) ∧ Below w3.heap.size w3 wr) (fun _ i _ => n2 - (intOf i).toNat)
      case' atStart => exact ⟨0, [], by omega, rfl, rfl, fun x hx => by simp at hx, by rw [List.append_nil]; exact hoT, hbT⟩
      case' round =>
        obtain ⟨k, rl, hk2, rfl, hrk, hrb, hoR, hbR⟩ := hrel
        have HRK := hid hrk
        have HRB := hid hrb
        clear hrk hrb hoT hbT
        have hll : (T ++ rl).length + 1 ≤ 2097152 := by have := HRK.out; rw [List.length_append]; omega
        by_cases hlt : k < n2
        case' pos =>
          obtain ⟨g2, rfl, hg2, hcl2⟩ := C2.out (by omega)
          have hce := (hbR.cell (p := ⟨g2, k, none⟩) hg2).trans (hcl2 k hlt)
          clear hcl2
          have hfr := hid (F2.out k hlt)
          go_wp2_with (at_builtin; refine stand ?_)
          refine goOn ?_
          refine wpList_app rfl (.tmp 147) (.tmp 152) rfl w3 _ _ [f2 k] _ rfl rfl rfl hoR hbR hll ?_
          intro v4 w7 ho4 hb7
          clear hoR hbR hce
          go_wp2_with (at_builtin; refine stand ?_)
          go_roundw
          case' rel => exact ⟨k + 1, rl ++ [f2 k], by omega, by go_num, by rw [List.length_append, HRK.out]; rfl, bytes_append HRB.out (fun x hx => by simp at hx; rw [hx]; exact hfr.out), by rw [List.append_assoc] at ho4; exact ho4, hb7⟩
          case' measure => simp [intOf]; omega
        case' neg =>
          obtain ⟨gR, capR, hvR, hgR, hcapR, hcR⟩ := owns_cells hoR (by have := HT.out.2.1; rw [List.length_append]; omega)
          subst hvR
          have HCR := hid hcR
          have HBR := hid hbR
          clear hcR hoR hbR
          go_wp2_with (at_builtin; refine stand ?_)
          refine (zzWhole_at T rl HT.out HRB.out (by omega) gR capR _ _ List.length_append.symm hcapR HCR.out).mono ?_
          rintro e wf ⟨rfl, rfl⟩
          go_wp2_with fail
          go_ret
          exact ⟨rfl, B3.out.trans (HBR.out.mono B3.out.size)⟩

end Go.Proofs.Qxb6001283a
