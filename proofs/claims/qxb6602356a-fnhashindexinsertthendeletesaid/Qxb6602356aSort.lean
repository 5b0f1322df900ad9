/-
  PLAIN LAWS: pairs in order; a merge; two sorted lists of the same pairs are one.
-/
import Derived.Test.Qxb6602356aTable
namespace Go.Proofs.Qxb6602356a.Srt

/-- pairLess -/
def lessB (x y : Nat × Int) : Bool := if x.1 = y.1 then decide (x.2 < y.2) else decide (x.1 < y.1)

/-- y does not come before x -/
def Le (x y : Nat × Int) : Prop := x.1 < y.1 ∨ (x.1 = y.1 ∧ x.2 ≤ y.2)

theorem le_of_not {x y : Nat × Int} (h : lessB y x = false) : Le x y := by
  unfold lessB at h
  unfold Le
  by_cases c : y.1 = x.1
  · rw [if_pos c] at h; have := of_decide_eq_false h; omega
  · rw [if_neg c] at h; have := of_decide_eq_false h; omega

theorem le_of_less {x y : Nat × Int} (h : lessB x y = true) : Le x y := by
  unfold lessB at h
  unfold Le
  by_cases c : x.1 = y.1
  · rw [if_pos c] at h; have := of_decide_eq_true h; omega
  · rw [if_neg c] at h; have := of_decide_eq_true h; omega

theorem Le.refl (x : Nat × Int) : Le x x := .inr ⟨rfl, by omega⟩
theorem Le.trans {x y z : Nat × Int} (h : Le x y) (k : Le y z) : Le x z := by unfold Le at *; omega
theorem Le.antisymm {x y : Nat × Int} (h : Le x y) (k : Le y x) : x = y := by
  unfold Le at h k
  exact Prod.ext (by omega) (by omega)

/-- the first k values of f -/
def lst (f : Nat → Nat × Int) : Nat → List (Nat × Int)
  | 0 => []
  | k + 1 => lst f k ++ [f k]

theorem lst_length (f : Nat → Nat × Int) : ∀ k, (lst f k).length = k
  | 0 => rfl
  | k + 1 => by rw [lst, List.length_append, lst_length f k]; rfl

theorem lst_congr {f g : Nat → Nat × Int} : ∀ k, (∀ j, j < k → g j = f j) → lst g k = lst f k
  | 0, _ => rfl
  | k + 1, h => by rw [lst, lst, lst_congr k (fun j hj => h j (by omega)), h k (by omega)]

theorem lst_upd (f : Nat → Nat × Int) (k : Nat) (v : Nat × Int) : lst (Tbl.upd f k v) (k + 1) = lst f k ++ [v] := by
  rw [lst, Tbl.upd_same, lst_congr k (fun j hj => Tbl.upd_other f k v (by omega))]

theorem lst_mem {f : Nat → Nat × Int} {x : Nat × Int} : ∀ k, x ∈ lst f k → ∃ j, j < k ∧ f j = x
  | 0, h => absurd h (by simp [lst])
  | k + 1, h => by
    rw [lst, List.mem_append] at h
    rcases h with h | h
    · obtain ⟨j, hj, e⟩ := lst_mem k h
      exact ⟨j, by omega, e⟩
    · exact ⟨k, by omega, (List.mem_singleton.1 h).symm⟩

theorem mem_lst (f : Nat → Nat × Int) : ∀ k j, j < k → f j ∈ lst f k
  | 0, j, h => absurd h (Nat.not_lt_zero j)
  | k + 1, j, h => by
    rw [lst, List.mem_append]
    by_cases e : j = k
    · subst e; exact .inr (List.mem_singleton.2 rfl)
    · exact .inl (mem_lst f k j (by omega))

/-- two stretches -/
theorem lst_add (f : Nat → Nat × Int) (m : Nat) : ∀ k, lst f (m + k) = lst f m ++ lst (fun j => f (m + j)) k
  | 0 => by rw [Nat.add_zero, lst, List.append_nil]
  | k + 1 => by rw [← Nat.add_assoc, lst, lst_add f m k, lst, List.append_assoc]

theorem lst_ext {f g : Nat → Nat × Int} : ∀ k, lst f k = lst g k → ∀ j, j < k → f j = g j
  | 0, _, j, h => absurd h (Nat.not_lt_zero j)
  | k + 1, e, j, h => by
    rw [lst, lst] at e
    obtain ⟨e1, e2⟩ := List.append_inj e (by rw [lst_length, lst_length])
    by_cases c : j = k
    · subst c; exact List.singleton_inj.1 e2
    · exact lst_ext k e1 j (by omega)

def Sorted (l : List (Nat × Int)) : Prop := l.Pairwise Le

theorem sorted_at {f : Nat → Nat × Int} : ∀ k, Sorted (lst f k) → ∀ i j, i < j → j < k → Le (f i) (f j)
  | 0, _, _, j, _, h => absurd h (Nat.not_lt_zero j)
  | k + 1, s, i, j, hij, hj => by
    rw [Sorted, lst, List.pairwise_append] at s
    by_cases c : j = k
    · subst c; exact s.2.2 _ (mem_lst f j i hij) _ (List.mem_singleton.2 rfl)
    · exact sorted_at k s.1 i j hij (by omega)

/-- two sorted lists of the same pairs are one -/
theorem sorted_unique : ∀ (l m : List (Nat × Int)), Sorted l → Sorted m → l.Perm m → l = m
  | [], m, _, _, h => (List.nil_perm.1 h).symm
  | a :: l, m, sl, sm, h => by
    cases m with
    | nil => exact absurd h.length_eq (by simp)
    | cons b m =>
      have ha : a ∈ b :: m := h.subset (List.mem_cons_self)
      have hb : b ∈ a :: l := h.symm.subset (List.mem_cons_self)
      have e : a = b := by
        rcases List.mem_cons.1 ha with e | ha
        · exact e
        · rcases List.mem_cons.1 hb with e | hb
          · exact e.symm
          · exact Le.antisymm ((List.pairwise_cons.1 sl).1 b hb) ((List.pairwise_cons.1 sm).1 a ha)
      subst e
      rw [sorted_unique l m (List.pairwise_cons.1 sl).2 (List.pairwise_cons.1 sm).2 (List.Perm.cons_inv h)]

/-- a merge on its way: i taken from l (of nl), j from r (of nr), into out -/
structure Merge (l r out : Nat → Nat × Int) (nl nr i j : Nat) : Prop where
  il : i ≤ nl
  jr : j ≤ nr
  sorted : Sorted (lst out (i + j))
  perm : (lst out (i + j)).Perm (lst l i ++ lst r j)
  below : ∀ x, x ∈ lst out (i + j) → (∀ a, i ≤ a → a < nl → Le x (l a)) ∧ (∀ b, j ≤ b → b < nr → Le x (r b))

theorem Merge.start (l r out : Nat → Nat × Int) (nl nr : Nat) : Merge l r out nl nr 0 0 :=
  ⟨Nat.zero_le _, Nat.zero_le _, List.Pairwise.nil, List.Perm.refl _, fun x h => absurd h (by simp [lst])⟩

theorem sorted_snoc {l : List (Nat × Int)} {v : Nat × Int} (s : Sorted l) (h : ∀ x, x ∈ l → Le x v) : Sorted (l ++ [v]) := by
  rw [Sorted, List.pairwise_append]
  exact ⟨s, List.pairwise_singleton _ _, fun x hx y hy => by rw [List.mem_singleton.1 hy]; exact h x hx⟩

theorem Merge.left {l r out : Nat → Nat × Int} {nl nr i j : Nat} (m : Merge l r out nl nr i j) (sl : Sorted (lst l nl)) (hi : i < nl)
    (hr : ∀ b, j ≤ b → b < nr → Le (l i) (r b)) : Merge l r (Tbl.upd out (i + j) (l i)) nl nr (i + 1) j := by
  have e : lst (Tbl.upd out (i + j) (l i)) (i + 1 + j) = lst out (i + j) ++ [l i] := by
    rw [show i + 1 + j = i + j + 1 by omega, lst_upd]
  refine ⟨hi, m.jr, ?_, ?_, fun x hx => ?_⟩
  · rw [e]; exact sorted_snoc m.sorted (fun x hx => (m.below x hx).1 i (Nat.le_refl _) hi)
  · rw [e, lst, List.append_assoc]
    exact (m.perm.append_right _).trans (by rw [List.append_assoc]; exact List.Perm.append_left _ List.perm_append_comm)
  · rw [e, List.mem_append] at hx
    rcases hx with hx | hx
    · exact ⟨fun a h1 h2 => (m.below x hx).1 a (by omega) h2, (m.below x hx).2⟩
    · rw [List.mem_singleton.1 hx]
      exact ⟨fun a h1 h2 => sorted_at nl sl i a (by omega) h2, hr⟩

theorem Merge.right {l r out : Nat → Nat × Int} {nl nr i j : Nat} (m : Merge l r out nl nr i j) (sr : Sorted (lst r nr)) (hj : j < nr)
    (hl : ∀ a, i ≤ a → a < nl → Le (r j) (l a)) : Merge l r (Tbl.upd out (i + j) (r j)) nl nr i (j + 1) := by
  have e : lst (Tbl.upd out (i + j) (r j)) (i + (j + 1)) = lst out (i + j) ++ [r j] := by
    rw [show i + (j + 1) = i + j + 1 by omega, lst_upd]
  refine ⟨m.il, hj, ?_, ?_, fun x hx => ?_⟩
  · rw [e]; exact sorted_snoc m.sorted (fun x hx => (m.below x hx).2 j (Nat.le_refl _) hj)
  · rw [e, lst, ← List.append_assoc]; exact m.perm.append_right _
  · rw [e, List.mem_append] at hx
    rcases hx with hx | hx
    · exact ⟨(m.below x hx).1, fun b h1 h2 => (m.below x hx).2 b (by omega) h2⟩
    · rw [List.mem_singleton.1 hx]
      exact ⟨hl, fun b h1 h2 => sorted_at nr sr j b (by omega) h2⟩

/-- the left's next comes now -/
theorem Merge.takeL {l r out : Nat → Nat × Int} {nl nr i j : Nat} (m : Merge l r out nl nr i j) (sl : Sorted (lst l nl)) (sr : Sorted (lst r nr)) (hi : i < nl) (hj : j < nr) (h : lessB (r j) (l i) = false) :
    Merge l r (Tbl.upd out (i + j) (l i)) nl nr (i + 1) j :=
  m.left sl hi (fun b h1 h2 => by
    by_cases e : b = j
    · subst e; exact le_of_not h
    · exact (le_of_not h).trans (sorted_at nr sr j b (by omega) h2))

theorem Merge.takeR {l r out : Nat → Nat × Int} {nl nr i j : Nat} (m : Merge l r out nl nr i j) (sl : Sorted (lst l nl)) (sr : Sorted (lst r nr)) (hi : i < nl) (hj : j < nr) (h : lessB (r j) (l i) = true) :
    Merge l r (Tbl.upd out (i + j) (r j)) nl nr i (j + 1) :=
  m.right sr hj (fun a h1 h2 => by
    by_cases e : a = i
    · subst e; exact le_of_less h
    · exact (le_of_less h).trans (sorted_at nl sl i a (by omega) h2))

end Go.Proofs.Qxb6602356a.Srt
