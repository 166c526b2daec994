/- The list that the second law builds, told without Go. -/
import Derived.Test.Qxb6001056aPlain
namespace Go.Proofs.Qxb6001056a

/-- The first i rows, one behind the other. -/
def flat (x : Nat → List Int) : Nat → List Int
  | 0 => []
  | i + 1 => flat x i ++ x i

/-- 'l', the first i rows. -/
def encTo (x : Nat → List Int) (i : Nat) : List Int := 108 :: flat x i
/-- The whole list: 'l', the rows, 'e'. -/
def encAll (x : Nat → List Int) (n : Nat) : List Int := encTo x n ++ [101]

/-- Where row i begins. -/
def posOf (x : Nat → List Int) (i : Nat) : Nat := (encTo x i).length

theorem encTo_succ (x : Nat → List Int) (i : Nat) : encTo x (i + 1) = encTo x i ++ x i := by simp [encTo, flat]
theorem posOf_zero (x : Nat → List Int) : posOf x 0 = 1 := rfl
theorem posOf_succ (x : Nat → List Int) (i : Nat) : posOf x (i + 1) = posOf x i + (x i).length := by simp [posOf, encTo_succ]
theorem encAll_length (x : Nat → List Int) (n : Nat) : (encAll x n).length = posOf x n + 1 := by simp [encAll, posOf]

theorem posOf_mono (x : Nat → List Int) (i : Nat) : ∀ d, posOf x i ≤ posOf x (i + d)
  | 0 => Nat.le_refl _
  | d + 1 => by
    have := posOf_mono x i d
    rw [show i + (d + 1) = (i + d) + 1 from by omega, posOf_succ]
    omega

/-- The first bytes of the whole are those of its parts. -/
theorem encTo_prefix (x : Nat → List Int) (i : Nat) : ∀ d, ∃ r, encTo x (i + d) = encTo x i ++ r
  | 0 => ⟨[], by simp⟩
  | d + 1 => by
    obtain ⟨r, hr⟩ := encTo_prefix x i d
    exact ⟨r ++ x (i + d), by rw [show i + (d + 1) = (i + d) + 1 from by omega, encTo_succ, hr, List.append_assoc]⟩

def encF (x : Nat → List Int) (n : Nat) (k : Nat) : Int := (encAll x n).getD k 0

theorem encF_row (x : Nat → List Int) (n i t : Nat) (hi : i < n) (ht : t < (x i).length) : encF x n (posOf x i + t) = (x i).getD t 0 := by
  obtain ⟨r, hr⟩ := encTo_prefix x (i + 1) (n - (i + 1))
  rw [show i + 1 + (n - (i + 1)) = n from by omega, encTo_succ] at hr
  unfold encF encAll
  rw [hr, List.append_assoc, List.append_assoc, List.getD_eq_getElem?_getD, List.getElem?_append_right (by unfold posOf; omega)]
  rw [show posOf x i + t - (encTo x i).length = t from by unfold posOf; omega, List.getElem?_append_left ht, ← List.getD_eq_getElem?_getD]

theorem encF_first (x : Nat → List Int) (n : Nat) : encF x n 0 = 108 := rfl
theorem encF_last (x : Nat → List Int) (n : Nat) : encF x n (posOf x n) = 101 := by
  unfold encF encAll posOf
  rw [List.getD_eq_getElem?_getD, List.getElem?_append_right (Nat.le_refl _), Nat.sub_self]
  rfl

theorem val_row (x : Nat → List Int) (n i : Nat) (hi : i < n) (hv : Val (fun t => (x i).getD t 0) (x i).length 0 (x i).length) :
    Val (encF x n) (encAll x n).length (posOf x i) (posOf x (i + 1)) := by
  have hm := posOf_mono x (i + 1) (n - (i + 1))
  rw [show i + 1 + (n - (i + 1)) = n from by omega] at hm
  have := val_emb (s := posOf x i) (g := encF x n) (m := (encAll x n).length) (by rw [encAll_length]; rw [posOf_succ] at hm; omega) (fun t ht => encF_row x n i t hi ht) hv
  rw [posOf_succ]
  exact this

theorem path_rows (x : Nat → List Int) (n : Nat) (hv : ∀ i, i < n → Val (fun t => (x i).getD t 0) (x i).length 0 (x i).length) :
    ∀ i, i ≤ n → Path (encF x n) (encAll x n).length 1 (posOf x i)
  | 0, _ => path_refl _ _ _
  | i + 1, h => path_trans (path_rows x n hv i (by omega)) (val_path (val_row x n i (by omega) (hv i (by omega))))

theorem val_whole (x : Nat → List Int) (n : Nat) (hv : ∀ i, i < n → Val (fun t => (x i).getD t 0) (x i).length 0 (x i).length) :
    Val (encF x n) (encAll x n).length 0 (encAll x n).length := by
  have hl := encAll_length x n
  have hp : 1 ≤ posOf x n := by have := posOf_mono x 0 n; rw [posOf_zero, Nat.zero_add] at this; exact this
  refine .inr ⟨posOf x n, ⟨by omega, by omega, by omega, .inl ⟨.inl (encF_first x n), rfl, rfl⟩⟩, path_rows x n hv n (Nat.le_refl _), ⟨by omega, by omega, by omega, .inr (.inl ⟨encF_last x n, rfl, by omega⟩)⟩⟩

theorem flat_range (x : Nat → List Int) (h : ∀ i, ∀ y ∈ x i, 0 ≤ y ∧ y < 256) : ∀ n, ∀ y ∈ flat x n, 0 ≤ y ∧ y < 256
  | 0, y, hy => by simp [flat] at hy
  | n + 1, y, hy => by
    simp only [flat, List.mem_append] at hy
    rcases hy with hy | hy
    · exact flat_range x h n y hy
    · exact h n y hy

theorem encF_range (x : Nat → List Int) (h : ∀ i, ∀ y ∈ x i, 0 ≤ y ∧ y < 256) (n k : Nat) : 0 ≤ encF x n k ∧ encF x n k < 256 := by
  unfold encF
  rw [List.getD_eq_getElem?_getD]
  cases hk : (encAll x n)[k]? with
  | none => simp
  | some y =>
    have hm := List.mem_of_getElem? hk
    simp only [Option.getD_some]
    simp only [encAll, encTo, List.mem_append, List.mem_cons, List.not_mem_nil, or_false] at hm
    rcases hm with (hm | hm) | hm
    · omega
    · exact flat_range x h n y hm
    · omega

end Go.Proofs.Qxb6001056a
