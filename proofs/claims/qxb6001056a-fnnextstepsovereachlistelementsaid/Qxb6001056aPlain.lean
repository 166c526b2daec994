/- Bencoding told without Go: tokens, runs of the counting machine, values. No Go in sight. -/
namespace Go.Proofs.Qxb6001056a

def dig (c : Int) : Bool := decide (48 ≤ c) && decide (c ≤ 57)

theorem dig_iff {c : Int} : dig c = true ↔ 48 ≤ c ∧ c ≤ 57 := by simp [dig]
theorem dig_no {c : Int} : dig c = false ↔ ¬ (48 ≤ c ∧ c ≤ 57) := by
  rw [← dig_iff]; simp

/-- The number that the first k digits from p on write. -/
def numTo (f : Nat → Int) (p : Nat) : Nat → Int
  | 0 => 0
  | k + 1 => numTo f p k * 10 + (f (p + k) - 48)

theorem numTo_nonneg (f : Nat → Int) (p : Nat) : ∀ k, (∀ t, t < k → dig (f (p + t)) = true) → 0 ≤ numTo f p k
  | 0, _ => by simp [numTo]
  | k + 1, h => by
    have ih := numTo_nonneg f p k (fun t ht => h t (by omega))
    have hd := dig_iff.1 (h k (by omega))
    simp only [numTo]; omega

/-- A byte string from p on: k digits, a colon, the bytes. -/
def StrEnd (f : Nat → Int) (n p k : Nat) : Prop :=
  0 < k ∧ (∀ t, t < k → dig (f (p + t)) = true) ∧ f (p + k) = 58 ∧ (∀ t, t ≤ k → numTo f p t ≤ n) ∧ p + k + 1 + (numTo f p k).toNat ≤ n

/-- One token from p to q; d: what it does to the count of open lists. -/
def Step (f : Nat → Int) (n p : Nat) (d : Int) (q : Nat) : Prop :=
  p < n ∧ q ≤ n ∧ p < q ∧
    (((f p = 108 ∨ f p = 100) ∧ d = 1 ∧ q = p + 1) ∨ (f p = 101 ∧ d = -1 ∧ q = p + 1) ∨
      (f p = 105 ∧ d = 0 ∧ f (q - 1) = 101 ∧ ∀ i, p ≤ i → i < q - 1 → f i ≠ 101) ∨
      (∃ k, StrEnd f n p k ∧ d = 0 ∧ q = p + k + 1 + (numTo f p k).toNat))

/-- k tokens, the count staying above zero. -/
def Runs (f : Nat → Int) (n : Nat) : Nat → Nat → Int → Nat → Int → Prop
  | 0, p, o, q, o' => p = q ∧ o = o'
  | k + 1, p, o, q, o' => ∃ d p', Step f n p d p' ∧ 0 < o + d ∧ Runs f n k p' (o + d) q o'

theorem runs_trans {f : Nat → Int} {n : Nat} : ∀ {k p o q o' j r o''}, Runs f n k p o q o' → Runs f n j q o' r o'' → Runs f n (k + j) p o r o''
  | 0, p, o, q, o', j, r, o'', ⟨h1, h2⟩, h => by subst h1; subst h2; rw [Nat.zero_add]; exact h
  | k + 1, p, o, q, o', j, r, o'', ⟨d, p', hs, h0, hr⟩, h => by
    rw [show k + 1 + j = (k + j) + 1 from by omega]
    exact ⟨d, p', hs, h0, runs_trans hr h⟩

theorem runs_up {f : Nat → Int} {n : Nat} (s : Int) (hs : 0 ≤ s) : ∀ {k p o q o'}, Runs f n k p o q o' → Runs f n k p (o + s) q (o' + s)
  | 0, p, o, q, o', ⟨h1, h2⟩ => ⟨h1, by omega⟩
  | k + 1, p, o, q, o', ⟨d, p', hst, h0, hr⟩ => by
    refine ⟨d, p', hst, by omega, ?_⟩
    have := runs_up s hs hr
    rw [show o + s + d = o + d + s from by omega]
    exact this

/-- Whole values, one behind the other, inside a list. -/
def Path (f : Nat → Int) (n p q : Nat) : Prop := ∃ k, Runs f n k p 1 q 1

theorem path_refl (f : Nat → Int) (n p : Nat) : Path f n p p := ⟨0, rfl, rfl⟩
theorem path_trans {f : Nat → Int} {n p q r : Nat} : Path f n p q → Path f n q r → Path f n p r
  | ⟨k, h⟩, ⟨j, h'⟩ => ⟨k + j, runs_trans h h'⟩

/-- One whole value from p to q. -/
def Val (f : Nat → Int) (n p q : Nat) : Prop :=
  Step f n p 0 q ∨ ∃ r, Step f n p 1 (p + 1) ∧ Path f n (p + 1) r ∧ Step f n r (-1) q

theorem val_path {f : Nat → Int} {n p q : Nat} : Val f n p q → Path f n p q
  | .inl h => ⟨1, 0, q, h, by omega, rfl, rfl⟩
  | .inr ⟨r, h1, ⟨k, hk⟩, h2⟩ => by
    have hk' := runs_up 1 (by omega) hk
    have h3 : Runs f n 1 r 2 q 1 := ⟨-1, q, h2, by omega, rfl, rfl⟩
    have h4 : Runs f n (k + 1) (p + 1) 2 q 1 := runs_trans hk' h3
    exact ⟨k + 1 + 1, 1, p + 1, h1, by omega, h4⟩

theorem val_lt {f : Nat → Int} {n p q : Nat} : Val f n p q → p < n ∧ q ≤ n
  | .inl h => ⟨h.1, h.2.1⟩
  | .inr ⟨_, h1, _, h2⟩ => ⟨h1.1, h2.2.1⟩

/-- What is still to come when the machine stands at p with o lists open and the value ends at q. -/
def Pending (f : Nat → Int) (n p : Nat) (o : Int) (q : Nat) : Prop :=
  (o = 0 ∧ Val f n p q) ∨ (0 < o ∧ ∃ k r, Runs f n k p o r 1 ∧ Step f n r (-1) q)

theorem pend_step {f : Nat → Int} {n p : Nat} {o : Int} {q : Nat} :
    Pending f n p o q → ∃ d p', Step f n p d p' ∧ ((o + d = 0 ∧ p' = q) ∨ (0 < o + d ∧ Pending f n p' (o + d) q))
  | .inl ⟨h0, .inl h⟩ => ⟨0, q, h, .inl ⟨by omega, rfl⟩⟩
  | .inl ⟨h0, .inr ⟨r, h1, ⟨k, hk⟩, h2⟩⟩ => ⟨1, p + 1, h1, .inr ⟨by omega, .inr ⟨by omega, k, r, by subst h0; exact hk, h2⟩⟩⟩
  | .inr ⟨h0, 0, r, ⟨h1, h2⟩, h3⟩ => ⟨-1, q, by subst h1; exact h3, .inl ⟨by omega, rfl⟩⟩
  | .inr ⟨h0, k + 1, r, ⟨d, p', hs, hp, hr⟩, h3⟩ => ⟨d, p', hs, .inr ⟨hp, .inr ⟨hp, k, r, hr, h3⟩⟩⟩

/-! A value keeps its shape where its bytes lie inside a longer row. -/

theorem numTo_emb {f g : Nat → Int} {n s : Nat} (hfg : ∀ i, i < n → g (s + i) = f i) (p : Nat) : ∀ k, p + k ≤ n → numTo g (s + p) k = numTo f p k
  | 0, _ => rfl
  | k + 1, h => by
    simp only [numTo]
    rw [numTo_emb hfg p k (by omega), Nat.add_assoc s p k, hfg (p + k) (by omega)]

theorem strEnd_emb {f g : Nat → Int} {n m s : Nat} (hs : s + n ≤ m) (hfg : ∀ i, i < n → g (s + i) = f i) {p k : Nat} (h : StrEnd f n p k) : StrEnd g m (s + p) k := by
  obtain ⟨h1, h2, h3, h4, h5⟩ := h
  refine ⟨h1, fun t ht => ?_, ?_, fun t ht => ?_, ?_⟩
  · rw [Nat.add_assoc, hfg _ (by omega)]; exact h2 t ht
  · rw [Nat.add_assoc, hfg _ (by omega)]; exact h3
  · rw [numTo_emb hfg p t (by omega)]; have := h4 t ht; omega
  · rw [numTo_emb hfg p k (by omega)]; omega

theorem step_emb {f g : Nat → Int} {n m s : Nat} (hs : s + n ≤ m) (hfg : ∀ i, i < n → g (s + i) = f i) {p q : Nat} {d : Int} (h : Step f n p d q) : Step g m (s + p) d (s + q) := by
  obtain ⟨h1, h2, h3, h⟩ := h
  refine ⟨by omega, by omega, by omega, ?_⟩
  rw [hfg p h1]
  rcases h with ⟨h, hd, hq⟩ | ⟨h, hd, hq⟩ | ⟨h, hd, hq, ha⟩ | ⟨k, hk, hd, hq⟩
  · exact .inl ⟨h, hd, by omega⟩
  · exact .inr (.inl ⟨h, hd, by omega⟩)
  · refine .inr (.inr (.inl ⟨h, hd, ?_, fun i h4 h5 => ?_⟩))
    · rw [show s + q - 1 = s + (q - 1) from by omega, hfg _ (by omega)]; exact hq
    · have := ha (i - s) (by omega) (by omega)
      rw [show i = s + (i - s) from by omega, hfg _ (by omega)]; exact this
  · refine .inr (.inr (.inr ⟨k, strEnd_emb hs hfg hk, hd, ?_⟩))
    have := hk.2.2.2.2
    rw [numTo_emb hfg p k (by omega)]; omega

theorem runs_emb {f g : Nat → Int} {n m s : Nat} (hs : s + n ≤ m) (hfg : ∀ i, i < n → g (s + i) = f i) : ∀ {k p o q o'}, Runs f n k p o q o' → Runs g m k (s + p) o (s + q) o'
  | 0, p, o, q, o', ⟨h1, h2⟩ => ⟨by omega, h2⟩
  | k + 1, p, o, q, o', ⟨d, p', hst, h0, hr⟩ => ⟨d, s + p', step_emb hs hfg hst, h0, runs_emb hs hfg hr⟩

theorem val_emb {f g : Nat → Int} {n m s : Nat} (hs : s + n ≤ m) (hfg : ∀ i, i < n → g (s + i) = f i) {p q : Nat} : Val f n p q → Val g m (s + p) (s + q)
  | .inl h => .inl (step_emb hs hfg h)
  | .inr ⟨r, h1, ⟨k, hk⟩, h2⟩ => .inr ⟨s + r, by have := step_emb hs hfg h1; rwa [← Nat.add_assoc] at this, ⟨k, by have := runs_emb hs hfg hk; rwa [← Nat.add_assoc] at this⟩, step_emb hs hfg h2⟩

end Go.Proofs.Qxb6001056a
