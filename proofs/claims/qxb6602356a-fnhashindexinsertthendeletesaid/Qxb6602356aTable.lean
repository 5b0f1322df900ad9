/-
  THE PLAIN LAWS OF AN OPEN-ADDRESSED TABLE: no Go in sight. A table of n slots is a function from places to pairs (hash, place); a slot is empty where its hash is 0.
-/
namespace Go.Proofs.Qxb6602356a.Tbl

/-- the slot that a hash starts from -/
def home (n h : Nat) : Nat := h / 2 % n

def upd (t : Nat → Nat × Int) (e : Nat) (v : Nat × Int) : Nat → Nat × Int := fun j => if j = e then v else t j

theorem upd_same (t : Nat → Nat × Int) (e : Nat) (v : Nat × Int) : upd t e v e = v := if_pos rfl
theorem upd_other (t : Nat → Nat × Int) (e : Nat) (v : Nat × Int) {j : Nat} (h : j ≠ e) : upd t e v j = t j := if_neg h

/-- slot i is d steps from h's home, and every slot on the way is occupied -/
def Reach (t : Nat → Nat × Int) (n h i : Nat) : Prop :=
  ∃ d, d < n ∧ (home n h + d) % n = i ∧ ∀ d', d' < d → (t ((home n h + d') % n)).1 ≠ 0

/-- what a table's slots are -/
structure Ok (n : Nat) (t : Nat → Nat × Int) : Prop where
  zero : ∀ i, i < n → (t i).1 = 0 → (t i).2 = 0
  odd : ∀ i, i < n → (t i).1 ≠ 0 → (t i).1 % 2 = 1
  path : ∀ i, i < n → (t i).1 ≠ 0 → Reach t n (t i).1 i

/-- how many of the first k slots are occupied -/
def cnt (t : Nat → Nat × Int) : Nat → Nat
  | 0 => 0
  | k + 1 => cnt t k + if (t k).1 = 0 then 0 else 1

/-- the items of the first k slots -/
def items (t : Nat → Nat × Int) : Nat → List (Nat × Int)
  | 0 => []
  | k + 1 => items t k ++ if (t k).1 = 0 then [] else [t k]

theorem items_length (t : Nat → Nat × Int) : ∀ k, (items t k).length = cnt t k
  | 0 => rfl
  | k + 1 => by
    rw [items, cnt, List.length_append, items_length t k]
    by_cases h : (t k).1 = 0 <;> simp [h]

theorem cnt_le (t : Nat → Nat × Int) : ∀ k, cnt t k ≤ k
  | 0 => Nat.le_refl _
  | k + 1 => by
    have := cnt_le t k
    rw [cnt]; split <;> omega

theorem cnt_full (t : Nat → Nat × Int) : ∀ k, (∀ i, i < k → (t i).1 ≠ 0) → cnt t k = k
  | 0, _ => rfl
  | k + 1, h => by rw [cnt, cnt_full t k (fun i hi => h i (by omega)), if_neg (h k (by omega))]

theorem cnt_none (t : Nat → Nat × Int) : ∀ k, (∀ i, i < k → (t i).1 = 0) → cnt t k = 0
  | 0, _ => rfl
  | k + 1, h => by rw [cnt, cnt_none t k (fun i hi => h i (by omega)), if_pos (h k (by omega))]

theorem none_of_cnt (t : Nat → Nat × Int) : ∀ k, cnt t k = 0 → ∀ i, i < k → (t i).1 = 0
  | 0, _, i, hi => absurd hi (Nat.not_lt_zero i)
  | k + 1, h, i, hi => by
    rw [cnt] at h
    by_cases e : i = k
    · subst e
      by_cases c : (t i).1 = 0
      · exact c
      · rw [if_neg c] at h; omega
    · exact none_of_cnt t k (by omega) i (by omega)

theorem items_none (t : Nat → Nat × Int) : ∀ k, (∀ i, i < k → (t i).1 = 0) → items t k = []
  | 0, _ => rfl
  | k + 1, h => by rw [items, items_none t k (fun i hi => h i (by omega)), if_pos (h k (by omega))]; rfl

/-- where not every slot is occupied there is an empty one -/
theorem exists_empty {t : Nat → Nat × Int} {n : Nat} (h : cnt t n < n) : ∃ i, i < n ∧ (t i).1 = 0 := by
  apply Classical.byContradiction
  intro c
  have : cnt t n = n := cnt_full t n (fun i hi e => c ⟨i, hi, e⟩)
  omega

/-- .. at some distance from wherever one starts -/
theorem dist_empty {t : Nat → Nat × Int} {n : Nat} (h : cnt t n < n) (s : Nat) (hs : s < n) : ∃ d, d < n ∧ (t ((s + d) % n)).1 = 0 := by
  obtain ⟨i, hi, e⟩ := exists_empty h
  by_cases c : s ≤ i
  · exact ⟨i - s, by omega, by rw [show s + (i - s) = i by omega, Nat.mod_eq_of_lt hi]; exact e⟩
  · refine ⟨i + n - s, by omega, ?_⟩
    rw [show s + (i + n - s) = i + n by omega, Nat.add_mod_right, Nat.mod_eq_of_lt hi]; exact e

theorem home_lt {n : Nat} (h0 : 0 < n) (h : Nat) : home n h < n := Nat.mod_lt _ h0

theorem items_congr {t t' : Nat → Nat × Int} : ∀ k, (∀ i, i < k → t' i = t i) → items t' k = items t k
  | 0, _ => rfl
  | k + 1, h => by rw [items, items, items_congr k (fun i hi => h i (by omega)), h k (by omega)]

theorem cnt_congr {t t' : Nat → Nat × Int} : ∀ k, (∀ i, i < k → t' i = t i) → cnt t' k = cnt t k
  | 0, _ => rfl
  | k + 1, h => by rw [cnt, cnt, cnt_congr k (fun i hi => h i (by omega)), h k (by omega)]

/-- an item laid into an empty slot -/
theorem items_fill (t : Nat → Nat × Int) (e : Nat) (v : Nat × Int) (hv : v.1 ≠ 0) (he : (t e).1 = 0) : ∀ k, e < k → (items (upd t e v) k).Perm (v :: items t k)
  | 0, h => absurd h (Nat.not_lt_zero e)
  | k + 1, h => by
    rw [items, items]
    by_cases c : k = e
    · subst c
      rw [upd_same, if_neg hv, he, if_pos rfl, items_congr k (fun i hi => upd_other t k v (by omega)), List.append_nil]
      exact List.perm_append_singleton v _
    · rw [upd_other t e v c]
      exact (items_fill t e v hv he k (by omega)).append_right _

theorem cnt_fill (t : Nat → Nat × Int) (e : Nat) (v : Nat × Int) (hv : v.1 ≠ 0) (he : (t e).1 = 0) (k : Nat) (h : e < k) : cnt (upd t e v) k = cnt t k + 1 := by
  rw [← items_length, ← items_length, (items_fill t e v hv he k h).length_eq]
  rfl

/-- h's item goes into the first empty slot from its home on -/
def Ins (n : Nat) (t : Nat → Nat × Int) (h : Nat) (p : Int) (t' : Nat → Nat × Int) : Prop :=
  ∃ d, d < n ∧ (∀ d', d' < d → (t ((home n h + d') % n)).1 ≠ 0) ∧ (t ((home n h + d) % n)).1 = 0 ∧ t' = upd t ((home n h + d) % n) (h, p)

theorem occ_upd {t : Nat → Nat × Int} {e : Nat} {v : Nat × Int} (hv : v.1 ≠ 0) {j : Nat} (h : (t j).1 ≠ 0) : (upd t e v j).1 ≠ 0 := by
  by_cases c : j = e
  · subst c; rw [upd_same]; exact hv
  · rw [upd_other t e v c]; exact h

theorem Ins.ok {n : Nat} {t : Nat → Nat × Int} {h : Nat} {p : Int} {t' : Nat → Nat × Int} (hok : Ok n t) (ho : h % 2 = 1) (hi : Ins n t h p t') : Ok n t' := by
  obtain ⟨d, hd, hpath, he, rfl⟩ := hi
  have hv : ((h, p) : Nat × Int).1 ≠ 0 := by show h ≠ 0; omega
  refine ⟨fun i hi c => ?_, fun i hi c => ?_, fun i hi c => ?_⟩
  · by_cases e : i = (home n h + d) % n
    · subst e; rw [upd_same] at c; exact absurd c hv
    · rw [upd_other _ _ _ e] at c ⊢; exact hok.zero i hi c
  · by_cases e : i = (home n h + d) % n
    · subst e; rw [upd_same]; exact ho
    · rw [upd_other _ _ _ e] at c ⊢; exact hok.odd i hi c
  · by_cases e : i = (home n h + d) % n
    · rw [e, upd_same]
      exact ⟨d, hd, rfl, fun d' hd' => occ_upd hv (hpath d' hd')⟩
    · rw [upd_other _ _ _ e] at c ⊢
      obtain ⟨d1, h1, h2, h3⟩ := hok.path i hi c
      exact ⟨d1, h1, h2, fun d' hd' => occ_upd hv (h3 d' hd')⟩

theorem Ins.items {n : Nat} {t : Nat → Nat × Int} {h : Nat} {p : Int} {t' : Nat → Nat × Int} (ho : h % 2 = 1) (hi : Ins n t h p t') : (items t' n).Perm ((h, p) :: items t n) := by
  obtain ⟨d, hd, _, he, rfl⟩ := hi
  exact items_fill t _ (h, p) (by show h ≠ 0; omega) he n (Nat.mod_lt _ (by omega))

theorem Ins.cnt {n : Nat} {t : Nat → Nat × Int} {h : Nat} {p : Int} {t' : Nat → Nat × Int} (ho : h % 2 = 1) (hi : Ins n t h p t') : cnt t' n = cnt t n + 1 := by
  rw [← items_length, ← items_length, (hi.items ho).length_eq]; rfl

/-- the table of no item -/
def none : Nat → Nat × Int := fun _ => (0, 0)

theorem ok_none (n : Nat) : Ok n none := ⟨fun _ _ _ => rfl, fun _ _ c => absurd rfl c, fun _ _ c => absurd rfl c⟩

/-- a power of two, at least 16 -/
def Pow (n : Nat) : Prop := 16 ≤ n ∧ ∃ k, n = 2 ^ k

/-- the documented invariant -/
def Valid (n : Nat) (t : Nat → Nat × Int) (c : Int) : Prop :=
  (n = 0 ∧ c = 0) ∨ (Pow n ∧ Ok n t ∧ (cnt t n : Int) = c ∧ 4 * c ≤ 3 * n)

theorem Pow.twice {n : Nat} (h : Pow n) : Pow (2 * n) := by
  obtain ⟨h1, k, rfl⟩ := h
  exact ⟨by omega, k + 1, by rw [Nat.pow_succ]; omega⟩

theorem pow16 : Pow 16 := ⟨Nat.le_refl _, 4, rfl⟩

end Go.Proofs.Qxb6602356a.Tbl
