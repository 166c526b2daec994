/- The first law. -/
import Derived.Test.Qxb6001056aOwn
namespace Go.Proofs.Qxb6001056a
open Go.ChangeShapes Go.WideShapes Go.ChangeAt Go.RowKit
set_option linter.unusedVariables false

theorem zzBytes_yes (a a' : Option Addr) (n c n' c' : Nat) (w : World) (h : n + n' ≤ 1048576) :
    Calls Try.prog 11 #[.slice a n c, .slice a' n' c'] w fun e w' => e = .returned (.bool true) ∧ w' = w := by
  go_enter Try.func11, Try.ntmps11
  go_wp2
  go_ret
  exact ⟨rfl, rfl⟩

theorem zzBytes_no (a a' : Option Addr) (n c n' c' : Nat) (w : World) (h : 1048576 < n + n') (hn : n ≤ 9223372036854775807) (hn' : n' ≤ 9223372036854775807) :
    Calls Try.prog 11 #[.slice a n c, .slice a' n' c'] w fun e w' => e = .returned (.bool false) ∧ w' = w := by
  by_cases h1 : n ≤ 1048576
  · by_cases h2 : n' ≤ 1048576
    · go_enter Try.func11, Try.ntmps11
      go_wp2
      go_ret
      exact ⟨rfl, rfl⟩
    · go_enter Try.func11, Try.ntmps11
      go_wp2
      go_ret
      exact ⟨rfl, rfl⟩
  · go_enter Try.func11, Try.ntmps11
    go_wp2
    go_ret
    exact ⟨rfl, rfl⟩

def MainPost (w : World) (e : Ending) (w' : World) : Prop := e = .returned (.bool true) ∧ Below w.heap.size w w'

theorem law1_big (a a' : Option Addr) (n c n' c' : Nat) (w : World) (h : 1048576 < n + n') (hn : n ≤ 9223372036854775807) (hn' : n' ≤ 9223372036854775807) :
    Calls Try.prog 4 #[.slice a n c, .slice a' n' c'] w (MainPost w) := by
  go_enter Try.func4, Try.ntmps4
  go_wp2_with fail
  refine (zzBytes_no a a' n c n' c' w h hn hn').mono ?_
  rintro e _ ⟨rfl, rfl⟩
  go_wp2_with fail
  go_ret
  exact ⟨rfl, Below.refl _ _⟩

theorem law1_half (a a' : Option Addr) (n c n' c' : Nat) (w : World) (h : n + n' ≤ 1048576) (h2 : 524288 < n ∨ 524288 < n') :
    Calls Try.prog 4 #[.slice a n c, .slice a' n' c'] w (MainPost w) := by
  by_cases h3 : 524288 < n
  · go_enter Try.func4, Try.ntmps4
    go_wp2_with fail
    refine (zzBytes_yes a a' n c n' c' w h).mono ?_
    rintro e _ ⟨rfl, rfl⟩
    go_wp2_with fail
    go_ret
    exact ⟨rfl, Below.refl _ _⟩
  · have h4 : 524288 < n' := by omega
    go_enter Try.func4, Try.ntmps4
    go_wp2_with fail
    refine (zzBytes_yes a a' n c n' c' w h).mono ?_
    rintro e _ ⟨rfl, rfl⟩
    go_wp2_with fail
    go_ret
    exact ⟨rfl, Below.refl _ _⟩

theorem src_add {w w' : World} {x : Addr} {n : Nat} {f : Nat → Int} (hg : w.grownBy w' none) (hc : ∀ i, i < n → w.cell? (x.add i) = some (.int .u8 (f i))) :
    ∀ j u, (cellsOf f n)[j]? = some u → w'.cell? (x.add j) = some u := by
  intro j u hj
  have hjn : j < n := by have := (List.getElem?_eq_some_iff.1 hj).1; rwa [cellsOf_length] at this
  rw [cellsOf_get f n j hjn] at hj
  cases hj
  exact hg.cell (hc j hjn) (fun e => by cases e)

/-- The second slice is nil. -/
theorem law1_nil (b o n c : Nat) (f : Nat → Int) (w : World) (hn : n ≤ 524288) (hf : ∀ i, i < n → 0 ≤ f i ∧ f i < 256)
    (hc : ∀ i, i < n → w.cell? ⟨b, o + i, none⟩ = some (.int .u8 (f i))) :
    Calls Try.prog 4 #[.slice (some ⟨b, o, none⟩) n c, .slice none 0 0] w (MainPost w) := by
  obtain ⟨i0, hi, hz0, hz1, hz2⟩ := info_parts Try.info5
  have hml : n ≤ maxLen := by unfold maxLen; omega
  have HF := hid hf
  have HC := hid hc
  clear hf hc
  go_enter Try.func4, Try.ntmps4
  go_wp2_with fail
  refine (zzBytes_yes _ _ n c 0 0 w (by omega)).mono ?_
  rintro e _ ⟨rfl, rfl⟩
  go_wp2_with fail
  refine (valid_any _ n c f _ (by omega) (.inr ⟨b, o, rfl, HC.out⟩)).mono ?_
  rintro e w0 ⟨rfl, k, ok, rfl, hok⟩
  cases ok with
  | false =>
    go_wp2_with fail
    go_ret
    exact ⟨rfl, Below.refl _ _⟩
  | true =>
    have HV := hid (hok rfl)
    have hnp := (val_lt (hok rfl)).1
    clear hok
    go_wp2_with (first | (at_builtin; refine wpList_append_own _ rfl (.tmp 25) (.tmp 26) 22 rfl w0.heap.size 5 i0 (.int .u8 0) 1 1 Try.underlying22 hi hz0 hz1 hz2 rfl (by decide) (.slice none 0 0) 0 [] rfl (World.ownsRow_nil _ _ _ _) ⟨b, o, none⟩ n c (cellsOf f n) rfl (by rw [cellsOf_length]; omega) (src_cells HC.out) (cellsOf_one f n) (by omega) (by omega) (Nat.le_refl _) ?_; intro v1 w1 hown1 hg1 hv1; clear hv1; simp only [Nat.zero_add, List.nil_append] at hown1) | (at_builtin; refine wpList_append_own_none rfl (.tmp 28) (.tmp 29) 22 rfl w0.heap.size 5 i0 1 Try.underlying22 hi v1 n (cellsOf f n) rfl hown1 rfl ?_))
    obtain ⟨g, cap, hv1, hg1b, hgw, hncap, hcg⟩ := own_cells hown1 hnp
    subst hv1
    have HB := hid ((Below.refl _ _).grown hg1 (Nat.le_refl _) (fun k hk => by cases hk))
    have HCG := hid hcg
    clear hcg hown1 hg1
    refine (valueOf_any _ n cap _).mono ?_
    rintro e w2 ⟨rfl, hb2⟩
    have HCG2 := hid (fun i (hi : i < n) => (hb2.cell (p := ⟨g, 0 + i, none⟩) hgw).trans (HCG.out i hi))
    have hgw2 : g < w2.heap.size := by have := hb2.size; omega
    have HB2 := hid (HB.out.trans (hb2.mono HB.out.size))
    clear HCG hb2
    go_wp2_with fail
    refine (zzNext_any g 0 n cap 0 n f _ (by omega) hncap hgw2 HF.out HV.out HCG2.out).mono ?_
    rintro e w3 ⟨rfl, hb3⟩
    have HB3 := hid (HB2.out.trans (hb3.mono HB2.out.size))
    clear hb3
    go_wp2_with fail
    go_ret
    exact ⟨rfl, HB3.out⟩

theorem law1_some (b o n c : Nat) (x' : Addr) (n' c' : Nat) (f f' : Nat → Int) (w : World) (hn : n ≤ 524288) (hn' : n' ≤ 524288) (hf : ∀ i, i < n → 0 ≤ f i ∧ f i < 256) (hf' : ∀ i, i < n' → 0 ≤ f' i ∧ f' i < 256)
    (hc : ∀ i, i < n → w.cell? ⟨b, o + i, none⟩ = some (.int .u8 (f i))) (hc' : ∀ i, i < n' → w.cell? (x'.add i) = some (.int .u8 (f' i))) :
    Calls Try.prog 4 #[.slice (some ⟨b, o, none⟩) n c, .slice (some x') n' c'] w (MainPost w) := by
  obtain ⟨i0, hi, hz0, hz1, hz2⟩ := info_parts Try.info5
  have hml : n + n' ≤ maxLen := by unfold maxLen; omega
  have HF := hid hf
  have HC := hid hc
  have HF' := hid hf'
  have HC' := hid hc'
  clear hf hc hf' hc'
  go_enter Try.func4, Try.ntmps4
  go_wp2_with fail
  refine (zzBytes_yes _ _ n c n' c' w (by omega)).mono ?_
  rintro e _ ⟨rfl, rfl⟩
  go_wp2_with fail
  refine (valid_any _ n c f _ (by omega) (.inr ⟨b, o, rfl, HC.out⟩)).mono ?_
  rintro e w0 ⟨rfl, k, ok, rfl, hok⟩
  cases ok with
  | false =>
    go_wp2_with fail
    go_ret
    exact ⟨rfl, Below.refl _ _⟩
  | true =>
    have HV := hid (hok rfl)
    have hnp := (val_lt (hok rfl)).1
    clear hok
    go_wp2_with (first | (at_builtin; refine wpList_append_own _ rfl (.tmp 25) (.tmp 26) 22 rfl w0.heap.size 5 i0 (.int .u8 0) 1 1 Try.underlying22 hi hz0 hz1 hz2 rfl (by decide) (.slice none 0 0) 0 [] rfl (World.ownsRow_nil _ _ _ _) ⟨b, o, none⟩ n c (cellsOf f n) rfl (by rw [cellsOf_length]; omega) (src_cells HC.out) (cellsOf_one f n) (by omega) (by omega) (Nat.le_refl _) ?_; intro v1 w1 hown1 hg1 hv1; clear hv1; simp only [Nat.zero_add, List.nil_append] at hown1) | (at_builtin; refine wpList_append_own _ rfl (.tmp 28) (.tmp 29) 22 rfl w0.heap.size 5 i0 (.int .u8 0) 1 1 Try.underlying22 hi hz0 hz1 hz2 rfl (by decide) v1 n (cellsOf f n) rfl hown1 x' n' c' (cellsOf f' n') rfl (by rw [cellsOf_length]; omega) (src_add hg1 HC'.out) (cellsOf_one f' n') (by omega) (by omega) hg1.size ?_; intro v2 w2 hown2 hg2 hv2; clear hv2; rw [cellsOf_append] at hown2))
    obtain ⟨g, cap, hv2, hg2b, hgw, hncap, hcg⟩ := own_cells hown2 (by omega)
    subst hv2
    have hlt1 := hown1.lt
    have HB := hid (((Below.refl w0.heap.size w0).grown hg1 (Nat.le_refl _) (fun k hk => by cases hk)).grown hg2 hg1.size (fun k hk => (hlt1 k hk).1))
    have HCG := hid hcg
    have HVG : Hid (Val (glue f n f') (n + n') 0 n) := by
      have := val_emb (s := 0) (g := glue f n f') (m := n + n') (by omega) (fun i hi => by simp [glue, hi]) HV.out
      refine hid ?_
      simpa using this
    have HFG : Hid (∀ i, i < n + n' → 0 ≤ glue f n f' i ∧ glue f n f' i < 256) := by
      intro i hi
      unfold glue
      split
      · exact HF.out i ‹_›
      · exact HF'.out (i - n) (by omega)
    clear hcg hown1 hg1 hown2 hg2 hlt1 HV HF HF' HC HC'
    have heq : ((n : Int) == (n : Int) + n' - n') = true := by rw [beq_iff_eq]; omega
    refine (valueOf_any _ (n + n') cap _).mono ?_
    rintro e w3 ⟨rfl, hb2⟩
    have HCG2 := hid (fun i (hi : i < n + n') => (hb2.cell (p := ⟨g, 0 + i, none⟩) hgw).trans (HCG.out i hi))
    have hgw2 : g < w3.heap.size := by have := hb2.size; omega
    have HB2 := hid (HB.out.trans (hb2.mono HB.out.size))
    clear HCG hb2
    go_wp2_with fail
    refine (zzNext_any g 0 (n + n') cap 0 n (glue f n f') _ (by omega) hncap hgw2 HFG.out HVG.out HCG2.out).mono ?_
    rintro e w4 ⟨rfl, hb3⟩
    have HB3 := hid (HB2.out.trans (hb3.mono HB2.out.size))
    clear hb3
    go_wp2_with fail
    go_ret
    exact ⟨rfl, HB3.out⟩

end Go.Proofs.Qxb6001056a
