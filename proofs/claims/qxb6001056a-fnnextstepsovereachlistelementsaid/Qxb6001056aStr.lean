/- Strings and lists of bytes; zzAppendString; zzBytes of the second law. -/
import Derived.Test.Qxb6001056aOwn
import Derived.Lib.ConvBytes
namespace Go.Proofs.Qxb6001056a
open Go.ChangeShapes Go.WideShapes Go.ChangeAt Go.RowKit
set_option linter.unusedVariables false

/-- A string's bytes as numbers. -/
def bl (s : ByteArray) : List Int := s.data.toList.map fun b => (b.toNat : Int)
theorem bl_length (s : ByteArray) : (bl s).length = s.size := by simp [bl]
theorem bl_take (s : ByteArray) (k : Nat) (h : k < s.size) : (bl s).take (k + 1) = (bl s).take k ++ [(s[k].toNat : Int)] := by
  rw [List.take_succ_eq_append_getElem (by rw [bl_length]; exact h)]
  congr 2
  simp only [bl, List.getElem_map]
  rfl
theorem bl_range (s : ByteArray) : ∀ x ∈ bl s, 0 ≤ x ∧ x < 256 := by
  intro x hx
  simp only [bl, List.mem_map] at hx
  obtain ⟨b, _, rfl⟩ := hx
  have := b.toNat_lt
  omega

/-- Numbers as cells. -/
def cl (l : List Int) : List Value := l.map (Value.int .u8)
theorem cl_append (l m : List Int) : cl l ++ cl m = cl (l ++ m) := by simp [cl]

/-- The slice v is a row of the call's own, of the bytes l. -/
def Owns (w : World) (B : Nat) (v : Value) (l : List Int) : Prop := w.ownsRow B 5 1 v l.length (cl l)

theorem owns_cells {w : World} {B : Nat} {v : Value} {l : List Int} (h : Owns w B v l) (hn : 0 < l.length) :
    ∃ g cap, v = .slice (some ⟨g, 0, none⟩) l.length cap ∧ B ≤ g ∧ g < w.heap.size ∧ l.length ≤ cap ∧ ∀ i, i < l.length → w.cell? ⟨g, 0 + i, none⟩ = some (.int .u8 (l.getD i 0)) := by
  rcases h.2 with ⟨_, h0⟩ | ⟨g, cap, cur, hv, hb, hg, hnc, _, hsz, ht⟩
  · omega
  · refine ⟨g, cap, hv, hb, (Array.getElem?_eq_some_iff.1 hg).1, hnc, fun i hi => ?_⟩
    rw [Nat.zero_add]
    simp only [World.cell?, hg, Option.isSome_none, Bool.false_eq_true, if_false]
    have e : (cur.toList.take (l.length * 1))[i]? = some (.int .u8 (l.getD i 0)) := by
      rw [ht]
      simp [cl, List.getD_eq_getElem?_getD, hi]
    rw [List.getElem?_take, if_pos (by omega)] at e
    simpa using e

theorem cell_one_new' (w : World) (v : Value) (t : TypeId) : ∀ j u, [v][j]? = some u → (w.alloc (.cells #[v] t)).cell? ((⟨w.heap.size, 0, none⟩ : Addr).add j) = some u := by
  intro j u hj
  match j, hj with
  | 0, hj => simp at hj; subst hj; simp [Addr.add]

theorem owns_snoc {w : World} {B : Nat} {v : Value} {l : List Int} {n : Nat} {x : Int} (hl : l.length = n) (h : w.ownsRow B 5 1 v (n + 1) (cl l ++ [.int .u8 x])) : Owns w B v (l ++ [x]) := by
  unfold Owns
  have e : cl (l ++ [x]) = cl l ++ [.int .u8 x] := by simp [cl]
  rw [e, List.length_append, List.length_singleton, hl]
  exact h

def AppPost (w : World) (B : Nat) (l : List Int) (e : Ending) (w' : World) : Prop := ∃ v, e = .returned v ∧ Owns w' B v l ∧ Below B w w'

theorem appStr_any (v : Value) (l : List Int) (s : ByteArray) (B : Nat) (w : World) (hB : B ≤ w.heap.size) (ho : Owns w B v l) (hl : l.length + s.size ≤ 2097152) :
    Calls Try.prog 14 #[v, .string s] w (AppPost w B (l ++ bl s)) := by
  obtain ⟨i0, hi, hz0, hz1, hz2⟩ := info_parts Try.info5
  have HO := hid ho
  clear ho
  go_enter Try.func14, Try.ntmps14
  go_wp2_with fail
  go_loopw [0, 5] (fun x i wr => ∃ k : Nat, k ≤ s.size ∧ i = .int .i64 k ∧ Owns wr B x (l ++ (bl s).take k) ∧ Below B w wr) (fun _ i _ => s.size - (intOf i).toNat)
  case atStart => exact ⟨0, Nat.zero_le _, rfl, by simpa using HO.out, Below.refl _ _⟩
  case round =>
    obtain ⟨k, hk, rfl, hown, hbl⟩ := hrel
    have hlen : (l ++ (bl s).take k).length = l.length + k := by rw [List.length_append, List.length_take, bl_length]; omega
    have HL := hid hlen
    have hml : l.length + k + 1 ≤ maxLen := by unfold maxLen; omega
    have hBr : B ≤ wr.heap.size := by have := hbl.size; omega
    have HBL := hid hbl
    clear hlen hbl
    have hown' : wr.ownsRow B 5 1 u0 (l.length + k) (cl (l ++ (bl s).take k)) := by have := hown; unfold Owns at this; rwa [HL.out] at this
    clear hown
    by_cases hlt : k < s.size
    · go_wp2_with (at_builtin; refine wpList_append_own _ rfl (.tmp 12) (.tmp 16) 22 rfl B 5 i0 (.int .u8 0) 1 1 Try.underlying22 hi hz0 hz1 hz2 rfl (by decide) u0 (l.length + k) (cl (l ++ (bl s).take k)) rfl (hown'.alloc _) ⟨wr.heap.size, 0, none⟩ 1 1 [.int .u8 s[k].toNat] rfl rfl (cell_one_new' _ _ _) (by intro u hu; simp at hu; subst hu; rfl) (by omega) (by omega) (by simp; omega) ?_; intro v1 w1 hown1 hg1 hv1; clear hv1)
      go_roundw
      case rel =>
        refine ⟨k + 1, by omega, by go_num, ?_, (HBL.out.alloc hBr _).grown hg1 (by simp; omega) (fun j hj => (hown'.lt j hj).1)⟩
        rw [bl_take s k hlt, ← List.append_assoc]
        exact owns_snoc HL.out hown1
      case measure => simp [intOf]; omega
    · go_wp2_with fail
      go_ret
      refine ⟨u0, rfl, ?_, HBL.out⟩
      have e : (bl s).take k = bl s := List.take_of_length_le (by rw [bl_length]; omega)
      have hl2 := HL.out
      rw [e] at hown' hl2
      unfold Owns
      rw [hl2]
      exact hown'

/-- The strings of the argument: their bytes' number is summed up in whatever way; a bool comes back. -/
def StrsAt (w : World) (b o n : Nat) (sb : Nat → ByteArray) : Prop := ∀ i, i < n → w.cell? ⟨b, o + i, none⟩ = some (.string (sb i)) ∧ (sb i).size ≤ maxLen

def BoolPost (w : World) (n : Nat) (sb : Nat → ByteArray) (e : Ending) (w' : World) : Prop := ∃ r, e = .returned (.bool r) ∧ w' = w ∧ (r = true → ∀ i, i < n → (sb i).size ≤ 1048576)

theorem zzBytes2_any (a : Option Addr) (b o n c : Nat) (sb : Nat → ByteArray) (w : World) (hn : n ≤ maxLen) (ha : 0 < n → a = some ⟨b, o, none⟩) (h : StrsAt w b o n sb) :
    Calls Try.prog 13 #[.slice a n c] w (BoolPost w n sb) := by
  unfold maxLen at hn
  have H := hid h
  clear h
  by_cases hbig : n ≤ 1048576
  · go_enter Try.func13, Try.ntmps13
    go_wp2_with fail
    go_loop [3, 4] (fun x i => ∃ (k : Nat) (t : Int), k ≤ n ∧ 0 ≤ t ∧ t ≤ 1048576 ∧ x = .int .i64 t ∧ i = .int .i64 k ∧ ∀ j, j < k → (sb j).size ≤ 1048576) (fun _ i => n - (intOf i).toNat)
    case atStart => exact ⟨0, n, by omega, by omega, by omega, by go_num, rfl, fun j hj => by omega⟩
    case round =>
      obtain ⟨k, t, hk, ht0, ht1, rfl, rfl, hall⟩ := hrel
      have HA := hid hall
      clear hall
      by_cases hlt : k < n
      · obtain rfl := ha (by omega)
        clear ha
        obtain ⟨hcell, hsz⟩ := H.out k hlt
        unfold maxLen at hsz
        obtain ⟨s, hs⟩ : ∃ s, s = sb k := ⟨_, rfl⟩
        rw [← hs] at hcell hsz
        have HS := hid hs
        clear hs
        by_cases h1 : s.size ≤ 1048576
        · by_cases h2 : t + s.size ≤ 1048576
          · go_wp2_with fail
            go_round
            case rel =>
              refine ⟨k + 1, t + s.size, by omega, by omega, by omega, rfl, by go_num, fun j hj => ?_⟩
              by_cases e : j = k
              · rw [e, ← HS.out]; exact h1
              · exact HA.out j (by omega)
            case measure => simp [intOf]; omega
          · go_wp2_with fail
            go_ret
            exact ⟨false, rfl, rfl, fun h => by cases h⟩
        · go_wp2_with fail
          go_ret
          exact ⟨false, rfl, rfl, fun h => by cases h⟩
      · go_wp2_with fail
        go_ret
        exact ⟨true, rfl, rfl, fun _ i hi => HA.out i (by omega)⟩
  · go_enter Try.func13, Try.ntmps13
    go_wp2_with fail
    go_ret
    exact ⟨false, rfl, rfl, fun h => by cases h⟩

end Go.Proofs.Qxb6001056a
