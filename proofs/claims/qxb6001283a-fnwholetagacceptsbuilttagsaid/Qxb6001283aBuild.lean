/- The row t that the law builds: its cells as a list of numbers; append as a law for it; what wholeTag answers on it. -/
import Derived.Test.Qxb6001283aOpen
import Derived.Test.Qxb6001283aClone
namespace Go.Proofs.Qxb6001283a
open Go.ChangeShapes Go.WideShapes Go.ChangeAt Go.RowKit
set_option linter.unusedVariables false

def Bytes (l : List Int) : Prop := ∀ x ∈ l, 0 ≤ x ∧ x < 256
theorem bytes_append {l m : List Int} (h : Bytes l) (h' : Bytes m) : Bytes (l ++ m) := by
  intro x hx
  rcases List.mem_append.1 hx with hx | hx
  · exact h x hx
  · exact h' x hx

/-- Numbers as cells. -/
def cl (l : List Int) : List Value := l.map (Value.int .u8)
theorem cl_append (l m : List Int) : cl l ++ cl m = cl (l ++ m) := by simp [cl]
theorem cl_one (l : List Int) : ∀ u ∈ cl l, u.oneCell' = true := by
  intro u hu
  simp only [cl, List.mem_map] at hu
  obtain ⟨a, _, rfl⟩ := hu
  rfl

/-- The slice v is a row of the call's own, of the bytes l. -/
def Owns (w : World) (B : Nat) (v : Value) (l : List Int) : Prop := w.ownsRow B 5 1 v l.length (cl l)

theorem owns_cells {w : World} {B : Nat} {v : Value} {l : List Int} (h : Owns w B v l) (hn : 0 < l.length) :
    ∃ g cap, v = .slice (some ⟨g, 0, none⟩) l.length cap ∧ g < w.heap.size ∧ l.length ≤ cap ∧ ∀ i, i < l.length → w.cell? ⟨g, 0 + i, none⟩ = some (.int .u8 (l.getD i 0)) := by
  rcases h.2 with ⟨_, h0⟩ | ⟨g, cap, cur, hv, hb, hg, hnc, _, hsz, ht⟩
  · omega
  · refine ⟨g, cap, hv, (Array.getElem?_eq_some_iff.1 hg).1, hnc, fun i hi => ?_⟩
    rw [Nat.zero_add]
    simp only [World.cell?, hg, Option.isSome_none, Bool.false_eq_true, if_false]
    have e : (cur.toList.take (l.length * 1))[i]? = some (.int .u8 (l.getD i 0)) := by
      rw [ht]
      simp [cl, List.getD_eq_getElem?_getD, hi]
    rw [List.getElem?_take, if_pos (by omega)] at e
    simpa using e

theorem cells_new (w : World) (vs : List Value) (t : TypeId) : ∀ j u, vs[j]? = some u → (w.alloc (.cells vs.toArray t)).cell? ((⟨w.heap.size, 0, none⟩ : Addr).add j) = some u := by
  intro j u hj
  have e : (⟨w.heap.size, 0, none⟩ : Addr).add j = ⟨w.heap.size, j, none⟩ := by unfold Addr.add; split <;> simp_all
  rw [e, World.cell?_alloc_new]
  simpa using hj

/-- 'append(t, x..)' of numbers written out, onto a row of the call's own: as a law for the walk. -/
theorem wpList_app {w : World} {ops : Array Oper} {rest : List Oper} {o : Oper} {a : Act} {Q : Exit → Act → World → Prop} (hgd : o.guard = none) (s x : Operand)
    (hop : o.op = .call { callee := .builtin .append, args := #[s, x], argTypes := #[22, 22] }) (W0 : World) (v : Value) (l xs : List Int) (g : Nat)
    (hs : a.eval s = v) (hx : a.eval x = .slice (some ⟨g, 0, none⟩) xs.length xs.length) (hg : g = w.heap.size) (ho : Owns w W0.heap.size v l) (hb : Below W0.heap.size W0 w) (hl : l.length + xs.length ≤ 2097152)
    (h : ∀ v' w', Owns w' W0.heap.size v' (l ++ xs) → Below W0.heap.size W0 w' → wpList Try.prog ops Q rest (a.put o.dst v') w') :
    wpList Try.prog ops Q (o :: rest) a (w.alloc (.cells (cl xs).toArray 5)) := by
  obtain ⟨i0, hi, hz0, hz1, hz2⟩ := info_parts Try.info5
  have hB := hb.size
  subst hg
  refine wpList_append_own _ hgd s x 22 hop W0.heap.size 5 i0 (.int .u8 0) 1 1 Try.underlying22 hi hz0 hz1 hz2 rfl (by decide) v l.length (cl l) hs (ho.alloc _) ⟨w.heap.size, 0, none⟩ xs.length xs.length (cl xs) hx (by simp [cl]) (cells_new _ _ _) (cl_one xs)
    (by unfold maxLen; omega) (by omega) (by simp; omega) ?_
  intro v' w' hown hg _
  refine h v' w' ?_ ((hb.alloc hB _).grown hg (by simp; omega) (fun k hk => (World.ownsRow.lt ho k hk).1))
  unfold Owns
  rw [← cl_append, List.length_append]
  exact hown

/-- What wholeTag answers on T and whatever follows it. -/
def TagOk (T : List Int) : Prop :=
  Bytes T ∧ 0 < T.length ∧ ∀ rl, Bytes rl → (T ++ rl).length ≤ 2097152 → ∀ (b c : Nat) (w : World), (T ++ rl).length ≤ c → (∀ i, i < (T ++ rl).length → w.cell? ⟨b, 0 + i, none⟩ = some (.int .u8 ((T ++ rl).getD i 0))) →
    Calls Try.prog 31 #[.slice (some ⟨b, 0, none⟩) (T ++ rl).length c] w (IntPost w T.length)

/-- A tag's name. -/
def NameOk (nm : List Int) : Prop := Bytes nm ∧ ∃ c r, nm = c :: r ∧ letB c = true ∧ ∀ x ∈ r, nmB x = true

theorem nameOk_snoc {nm : List Int} {x : Int} (h : NameOk nm) (h0 : 0 ≤ x) (h1 : x < 256) (hx : nmB x = true) : NameOk (nm ++ [x]) := by
  obtain ⟨hb, c, r, rfl, hc, hr⟩ := h
  refine ⟨bytes_append hb (fun y hy => by simp at hy; omega), c, r ++ [x], rfl, hc, fun y hy => ?_⟩
  rcases List.mem_append.1 hy with hy | hy
  · exact hr y hy
  · simp at hy; rw [hy]; exact hx

theorem nameOk_one {x : Int} (h0 : 0 ≤ x) (h1 : x < 256) (hx : letB x = true) : NameOk [x] :=
  ⟨fun y hy => by simp at hy; omega, x, [], rfl, hx, fun y hy => by simp at hy⟩

theorem getD_left (a b : List Int) (i : Nat) (h : i < a.length) : (a ++ b).getD i 0 = a.getD i 0 := by
  simp [List.getD_eq_getElem?_getD, List.getElem?_append_left h]
theorem getD_right (a b : List Int) (i : Nat) : (a ++ b).getD (a.length + i) 0 = b.getD i 0 := by
  rw [List.getD_eq_getElem?_getD, List.getElem?_append_right (by omega), Nat.add_sub_cancel_left, ← List.getD_eq_getElem?_getD]

theorem bytes_getD {l : List Int} (h : Bytes l) (i : Nat) : 0 ≤ l.getD i 0 ∧ l.getD i 0 < 256 := by
  rw [List.getD_eq_getElem?_getD]
  cases hk : l[i]? with
  | none => simp
  | some y => exact h y (List.mem_of_getElem? hk)

theorem mem_getD {r : List Int} {i : Nat} (h : i < r.length) : r.getD i 0 ∈ r := by
  rw [List.getD_eq_getElem?_getD, List.getElem?_eq_getElem h]; simp

theorem tagOk_close (nm : List Int) (h : NameOk nm) : TagOk (60 :: 47 :: (nm ++ [32, 9, 62])) := by
  obtain ⟨hb, c, r, rfl, hc, hr⟩ := h
  have hbT : Bytes (60 :: 47 :: ((c :: r) ++ [32, 9, 62])) := by
    refine bytes_append (l := [60, 47]) (fun x hx => by simp at hx; omega) (bytes_append hb (fun x hx => by simp at hx; omega))
  refine ⟨hbT, by simp, fun rl hrl hlen b cp w hcap hcell => ?_⟩
  have hF : ∀ i, ((60 :: 47 :: ((c :: r) ++ [32, 9, 62])) ++ rl).getD (2 + i) 0 = ((c :: r) ++ (32 :: 9 :: 62 :: rl)).getD i 0 := by
    intro i
    have := getD_right [60, 47] ((c :: r) ++ (32 :: 9 :: 62 :: rl)) i
    simpa using this
  have hG : ∀ i, ((60 :: 47 :: ((c :: r) ++ [32, 9, 62])) ++ rl).getD (2 + ((c :: r).length + i)) 0 = (32 :: 9 :: 62 :: rl).getD i 0 := fun i => by
    rw [hF, getD_right]
  have key := close_any b 0 ((60 :: 47 :: ((c :: r) ++ [32, 9, 62])) ++ rl).length cp (2 + (c :: r).length) (fun i => ((60 :: 47 :: ((c :: r) ++ [32, 9, 62])) ++ rl).getD i 0) w hlen
    (fun i _ => bytes_getD (bytes_append hbT hrl) i)
    ⟨by simp; omega, by simp; omega, rfl, hc, fun i h3 hi => by
      rw [show i = 2 + (1 + (i - 3)) from by omega, hF, show (1 + (i - 3)) = (i - 3) + 1 from by omega]
      have e : ((c :: r) ++ (32 :: 9 :: 62 :: rl)).getD (i - 3 + 1) 0 = r.getD (i - 3) 0 := by
        rw [getD_left _ _ _ (by simp at hi ⊢; omega)]; simp
      rw [e]
      exact hr _ (mem_getD (by simp at hi; omega)), by have := hG 0; simpa using this, by have := hG 1; simpa [Nat.add_assoc] using this, by have := hG 2; simpa [Nat.add_assoc] using this⟩ hcell
  have el : 2 + (c :: r).length + 3 = (60 :: 47 :: ((c :: r) ++ [32, 9, 62])).length := by simp; omega
  rw [el] at key
  exact key

theorem tagOk_open (nm vl : List Int) (q : Int) (fin : List Int) (h : NameOk nm) (hq : q = 34 ∨ q = 39) (hv : Bytes vl) (hvq : ∀ x ∈ vl, x ≠ q) (hfin : fin = [62] ∨ fin = [47, 62]) :
    TagOk (60 :: (nm ++ (32 :: 120 :: 61 :: q :: (vl ++ (q :: fin))))) := by
  obtain ⟨hb, c, r, rfl, hc, hr⟩ := h
  have hbq : Bytes [q] := fun x hx => by simp at hx; omega
  have hbf : Bytes fin := by rcases hfin with rfl | rfl <;> exact fun x hx => by simp at hx; omega
  have hbT : Bytes (60 :: ((c :: r) ++ (32 :: 120 :: 61 :: q :: (vl ++ (q :: fin))))) :=
    bytes_append (l := [60]) (fun x hx => by simp at hx; omega) (bytes_append hb (bytes_append (l := [32, 120, 61]) (fun x hx => by simp at hx; omega) (bytes_append hbq (bytes_append hv (bytes_append hbq hbf)))))
  refine ⟨hbT, by simp, fun rl hrl hlen b cp w hcap hcell => ?_⟩
  obtain ⟨L, hL⟩ : ∃ L, L = (60 :: ((c :: r) ++ (32 :: 120 :: 61 :: q :: (vl ++ (q :: fin))))) ++ rl := ⟨_, rfl⟩
  rw [← hL] at hlen hcap hcell ⊢
  have hF : ∀ i, L.getD (1 + i) 0 = ((c :: r) ++ (32 :: 120 :: 61 :: q :: (vl ++ (q :: (fin ++ rl))))).getD i 0 := by
    intro i
    have := getD_right [60] ((c :: r) ++ (32 :: 120 :: 61 :: q :: (vl ++ (q :: (fin ++ rl))))) i
    rw [hL]
    simpa using this
  have hG : ∀ i, L.getD (1 + ((c :: r).length + i)) 0 = (32 :: 120 :: 61 :: q :: (vl ++ (q :: (fin ++ rl)))).getD i 0 := fun i => by
    rw [hF, getD_right]
  have hH : ∀ i, L.getD (1 + ((c :: r).length + (4 + i))) 0 = (vl ++ (q :: (fin ++ rl))).getD i 0 := fun i => by
    rw [hG]
    have := getD_right [32, 120, 61, q] (vl ++ (q :: (fin ++ rl))) i
    simpa using this
  have hI : ∀ i, L.getD (1 + ((c :: r).length + (4 + (vl.length + i)))) 0 = (q :: (fin ++ rl)).getD i 0 := fun i => by
    rw [hH, getD_right]
  obtain ⟨M, hM⟩ : ∃ M, M = (c :: r).length := ⟨_, rfl⟩
  rw [← hM] at hG hH hI
  have hLl : L.length = 1 + M + 4 + vl.length + 1 + fin.length + rl.length := by rw [hL, hM]; simp; omega
  have hMr : M = r.length + 1 := by rw [hM]; simp
  have hTl : (60 :: ((c :: r) ++ (32 :: 120 :: 61 :: q :: (vl ++ (q :: fin))))).length = 1 + M + 4 + vl.length + 1 + fin.length := by rw [hM]; simp; omega
  rw [hTl]
  refine open_any b 0 L.length cp (1 + M) vl.length q (1 + M + 4 + vl.length + 1 + fin.length) (fun i => L.getD i 0) w hlen hcap (fun i _ => by rw [hL]; exact bytes_getD (bytes_append hbT hrl) i) ?_ hcell
  refine ⟨by omega, ?_, fun i h2 hi => ?_, ?_, ?_, ?_, hq, ?_, fun i h4 hi => ?_, ?_, ?_, by omega⟩
  · have := hF 0; simp at this; show letB (L.getD 1 0) = true
    rw [List.getD_eq_getElem?_getD, this]; exact hc
  · show nmB (L.getD i 0) = true
    rw [show i = 1 + ((i - 2) + 1) from by omega, hF, getD_left _ _ _ (by simp; omega)]
    have e : (c :: r).getD (i - 2 + 1) 0 = r.getD (i - 2) 0 := by simp
    rw [e]
    exact hr _ (mem_getD (by omega))
  · have := hG 0; simpa using this
  · show L.getD (1 + M + 1) 0 = 120; rw [show 1 + M + 1 = 1 + (M + 1) from by omega, hG]; rfl
  · show L.getD (1 + M + 2) 0 = 61; rw [show 1 + M + 2 = 1 + (M + 2) from by omega, hG]; rfl
  · show L.getD (1 + M + 3) 0 = q; rw [show 1 + M + 3 = 1 + (M + 3) from by omega, hG]; rfl
  · show L.getD i 0 ≠ q
    rw [show i = 1 + (M + (4 + (i - (1 + M + 4)))) from by omega, hH, getD_left _ _ _ (by omega)]
    exact hvq _ (mem_getD (by omega))
  · show L.getD (1 + M + 4 + vl.length) 0 = q; rw [show 1 + M + 4 + vl.length = 1 + (M + (4 + (vl.length + 0))) from by omega, hI]; rfl
  · have e5 : L.getD (1 + M + 5 + vl.length) 0 = (fin ++ rl).getD 0 0 := by
      rw [show 1 + M + 5 + vl.length = 1 + (M + (4 + (vl.length + 1))) from by omega, hI]; simp
    have e6 : L.getD (1 + M + 6 + vl.length) 0 = (fin ++ rl).getD 1 0 := by
      rw [show 1 + M + 6 + vl.length = 1 + (M + (4 + (vl.length + 2))) from by omega, hI]; simp
    rcases hfin with rfl | rfl
    · left; exact ⟨by show L.getD _ 0 = 62; rw [e5]; rfl, by simp; omega⟩
    · right; exact ⟨by show L.getD _ 0 = 47; rw [e5]; rfl, by show L.getD _ 0 = 62; rw [e6]; rfl, by simp; omega⟩

end Go.Proofs.Qxb6001283a
