/-
  PLAIN LAWS: an item taken out of an open-addressed table; the items behind it move back. 'T' is the table with its hole i empty; j = i + D is the slot that is looked at next.
-/
import Derived.Test.Qxb6602356aRuns
namespace Go.Proofs.Qxb6602356a.Tbl

theorem upd_self (t : Nat → Nat × Int) (i : Nat) (v : Nat × Int) (h : t i = v) : upd t i v = t := by
  funext s
  by_cases e : s = i
  · subst e; rw [upd_same, h]
  · rw [upd_other _ _ _ e]

theorem upd_upd (t : Nat → Nat × Int) (i : Nat) (v w : Nat × Int) : upd (upd t i v) i w = upd t i w := by
  funext s
  by_cases e : s = i
  · subst e; rw [upd_same, upd_same]
  · rw [upd_other _ _ _ e, upd_other _ _ _ e, upd_other _ _ _ e]

theorem upd_comm (t : Nat → Nat × Int) {i j : Nat} (h : i ≠ j) (v w : Nat × Int) : upd (upd t i v) j w = upd (upd t j w) i v := by
  funext s
  by_cases e : s = i
  · subst e; rw [upd_other _ _ _ h, upd_same, upd_same]
  · by_cases e2 : s = j
    · subst e2; rw [upd_same, upd_other _ _ _ e, upd_same]
    · rw [upd_other _ _ _ e2, upd_other _ _ _ e, upd_other _ _ _ e, upd_other _ _ _ e2]

/-- an item taken out -/
theorem items_take (t : Nat → Nat × Int) (i n : Nat) (hi : i < n) (ho : (t i).1 ≠ 0) : (items t n).Perm (t i :: items (upd t i (0, 0)) n) := by
  have h := items_fill (upd t i (0, 0)) i (t i) ho (by rw [upd_same]) n hi
  rw [upd_upd, upd_self t i (t i) rfl] at h
  exact h

theorem cnt_take (t : Nat → Nat × Int) (i n : Nat) (hi : i < n) (ho : (t i).1 ≠ 0) : cnt t n = cnt (upd t i (0, 0)) n + 1 := by
  rw [← items_length, ← items_length, (items_take t i n hi ho).length_eq]; rfl

/-- two places less than a round apart are one only where they are -/
theorem mod_inj {n a x y : Nat} (hx : x < n) (hy : y < n) (h : (a + x) % n = (a + y) % n) : x = y := by
  by_cases c : x ≤ y
  · have e := mod_sub (x := a + x) h (Nat.le_refl _) (by omega)
    rw [Nat.sub_self, show a + y - (a + x) = y - x by omega, Nat.zero_mod, Nat.mod_eq_of_lt (by omega)] at e
    omega
  · have e := mod_sub (x := a + y) h (by omega) (Nat.le_refl _)
    rw [Nat.sub_self, show a + x - (a + y) = x - y by omega, Nat.zero_mod, Nat.mod_eq_of_lt (by omega)] at e
    omega

/-- the way of s's item, the hole i let by where s lies D or more behind it -/
def Way (n : Nat) (T : Nat → Nat × Int) (i D s : Nat) : Prop :=
  ∃ d, d < n ∧ (home n (T s).1 + d) % n = s ∧ ∀ d', d' < d → (T ((home n (T s).1 + d') % n)).1 ≠ 0 ∨ ((home n (T s).1 + d') % n = i ∧ D ≤ d - d')

/-- the loop's state -/
structure Hole (n : Nat) (T : Nat → Nat × Int) (i D : Nat) : Prop where
  lt : i < n
  hole : T i = (0, 0)
  d0 : 1 ≤ D
  dn : D < n
  zero : ∀ s, s < n → (T s).1 = 0 → (T s).2 = 0
  odd : ∀ s, s < n → (T s).1 ≠ 0 → (T s).1 % 2 = 1
  between : ∀ q, 1 ≤ q → q < D → (T ((i + q) % n)).1 ≠ 0
  way : ∀ s, s < n → (T s).1 ≠ 0 → Way n T i D s

/-- at the start -/
theorem Hole.start {n : Nat} {t : Nat → Nat × Int} (hok : Ok n t) {i : Nat} (hi : i < n) (hn : 2 ≤ n) : Hole n (upd t i (0, 0)) i 1 := by
  have hz : ∀ s, s < n → (upd t i (0, 0) s).1 ≠ 0 → s ≠ i ∧ upd t i (0, 0) s = t s := fun s _ h => by
    have : s ≠ i := fun e => h (by rw [e, upd_same])
    exact ⟨this, upd_other _ _ _ this⟩
  refine ⟨hi, upd_same _ _ _, Nat.le_refl _, by omega, fun s hs h => ?_, fun s hs h => ?_, fun q h1 h2 => by omega, fun s hs h => ?_⟩
  · by_cases e : s = i
    · rw [e, upd_same]
    · rw [upd_other _ _ _ e] at h ⊢; exact hok.zero s hs h
  · obtain ⟨_, e⟩ := hz s hs h
    rw [e] at h ⊢; exact hok.odd s hs h
  · obtain ⟨hsi, e⟩ := hz s hs h
    rw [e] at h
    obtain ⟨d, hd, hto, hp⟩ := hok.path s hs h
    refine ⟨d, hd, by rw [e]; exact hto, fun d' hd' => ?_⟩
    rw [e]
    by_cases c : (home n (t s).1 + d') % n = i
    · exact .inr ⟨c, by omega⟩
    · exact .inl (by rw [upd_other _ _ _ c]; exact hp d' hd')

theorem Hole.ne {n : Nat} {T : Nat → Nat × Int} {i D : Nat} (h : Hole n T i D) : (i + D) % n ≠ i := fun e => by
  have h1 := h.lt
  have h2 := h.d0
  have h3 := h.dn
  have : D = 0 := mod_inj (a := i) (n := n) h3 (by omega) (by rw [e, Nat.add_zero, Nat.mod_eq_of_lt h1])
  omega

/-- the end: the slot behind the stretch is empty -/
theorem Hole.done {n : Nat} {T : Nat → Nat × Int} {i D : Nat} (h : Hole n T i D) (he : (T ((i + D) % n)).1 = 0) : Ok n T := by
  refine ⟨h.zero, h.odd, fun s hs ho => ?_⟩
  obtain ⟨d, hd, hto, hp⟩ := h.way s hs ho
  refine ⟨d, hd, hto, fun d' hd' => ?_⟩
  rcases hp d' hd' with c | ⟨c, hD⟩
  · exact c
  · exfalso
    have hj : (home n (T s).1 + (d' + D)) % n = (i + D) % n := by
      rw [← Nat.add_assoc, ← Nat.mod_add_mod, c]
    by_cases e : d' + D = d
    · rw [e, hto] at hj
      rw [← hj] at he
      exact ho he
    · rcases hp (d' + D) (by omega) with c2 | ⟨c2, _⟩
      · rw [hj] at c2; exact c2 he
      · rw [hj] at c2; exact h.ne c2

/-- the item in slot j may stay -/
theorem Hole.stay {n : Nat} {T : Nat → Nat × Int} {i D : Nat} (h : Hole n T i D) (hocc : (T ((i + D) % n)).1 ≠ 0) (hd : dist n (home n (T ((i + D) % n)).1) ((i + D) % n) < D) (hDn : D + 1 < n) : Hole n T i (D + 1) := by
  have h0 : 0 < n := by omega
  refine ⟨h.lt, h.hole, by omega, hDn, h.zero, h.odd, fun q h1 h2 => ?_, fun s hs ho => ?_⟩
  · by_cases e : q = D
    · subst e; exact hocc
    · exact h.between q h1 (by omega)
  · obtain ⟨d, hdn, hto, hp⟩ := h.way s hs ho
    refine ⟨d, hdn, hto, fun d' hd' => ?_⟩
    rcases hp d' hd' with c | ⟨c, hD⟩
    · exact .inl c
    · right
      refine ⟨c, ?_⟩
      apply Classical.byContradiction
      intro hlt
      have eD : d' + D = d := by omega
      have hj : (home n (T s).1 + d) % n = (i + D) % n := by
        rw [← eD, ← Nat.add_assoc, ← Nat.mod_add_mod, c]
      rw [hto] at hj
      rw [← hj] at hd
      have e2 := dist_of (n := n) (a := home n (T s).1) (d := d) (home_lt h0 _) hdn
      rw [hto] at e2
      omega

/-- the item in slot j goes into the hole -/
theorem Hole.move {n : Nat} {T : Nat → Nat × Int} {i D : Nat} (h : Hole n T i D) (hocc : (T ((i + D) % n)).1 ≠ 0) (hd : D ≤ dist n (home n (T ((i + D) % n)).1) ((i + D) % n)) (hn : 2 ≤ n) :
    Hole n (upd (upd T i (T ((i + D) % n))) ((i + D) % n) (0, 0)) ((i + D) % n) 1 := by
  have h0 : 0 < n := by omega
  have hne := h.ne
  have hjlt : (i + D) % n < n := Nat.mod_lt _ h0
  generalize hj : (i + D) % n = j at hocc hd hne hjlt ⊢
  have hTi : upd (upd T i (T j)) j (0, 0) i = T j := by rw [upd_other _ _ _ (fun e => hne e.symm), upd_same]
  have hTj : upd (upd T i (T j)) j (0, 0) j = (0, 0) := upd_same _ _ _
  have hTo : ∀ s, s ≠ i → s ≠ j → upd (upd T i (T j)) j (0, 0) s = T s := fun s h1 h2 => by rw [upd_other _ _ _ h2, upd_other _ _ _ h1]
  refine ⟨hjlt, hTj, Nat.le_refl _, by omega, fun s hs hz => ?_, fun s hs hz => ?_, fun q h1 h2 => by omega, fun s hs hz => ?_⟩
  · by_cases e1 : s = i
    · subst e1; rw [hTi] at hz; exact absurd hz hocc
    · by_cases e2 : s = j
      · subst e2; rw [hTj]
      · rw [hTo s e1 e2] at hz ⊢; exact h.zero s hs hz
  · by_cases e1 : s = i
    · subst e1; rw [hTi]; exact h.odd j hjlt hocc
    · by_cases e2 : s = j
      · subst e2; rw [hTj] at hz; exact absurd rfl hz
      · rw [hTo s e1 e2] at hz ⊢; exact h.odd s hs hz
  · by_cases e1 : s = i
    · subst e1
      obtain ⟨d, hdn, hto, hp⟩ := h.way j hjlt hocc
      have hdd := dist_of (n := n) (a := home n (T j).1) (d := d) (home_lt h0 _) hdn
      rw [hto] at hdd
      rw [hdd] at hd
      unfold Way
      rw [hTi]
      have hback : (home n (T j).1 + (d - D)) % n = s := by
        have e := mod_sub (x := D) (hto.trans hj.symm) (by omega) (by omega)
        rw [show home n (T j).1 + d - D = home n (T j).1 + (d - D) by omega, show s + D - D = s by omega, Nat.mod_eq_of_lt hs] at e
        exact e
      refine ⟨d - D, by omega, hback, fun d' hd' => .inl ?_⟩
      have n1 : (home n (T j).1 + d') % n ≠ s := fun e => by
        have := mod_inj (a := home n (T j).1) (x := d') (y := d - D) (by omega) (by omega) (e.trans hback.symm)
        omega
      have n2 : (home n (T j).1 + d') % n ≠ j := fun e => by
        have := mod_inj (a := home n (T j).1) (x := d') (y := d) (by omega) hdn (e.trans hto.symm)
        omega
      rw [hTo _ n1 n2]
      rcases hp d' (by omega) with c | ⟨c, _⟩
      · exact c
      · exact absurd c n1
    · by_cases e2 : s = j
      · subst e2; rw [hTj] at hz; exact absurd rfl hz
      · have e := hTo s e1 e2
        rw [e] at hz
        obtain ⟨d, hdn, hto, hp⟩ := h.way s hs hz
        unfold Way
        rw [e]
        refine ⟨d, hdn, hto, fun d' hd' => ?_⟩
        by_cases c1 : (home n (T s).1 + d') % n = j
        · exact .inr ⟨c1, by omega⟩
        · left
          by_cases c2 : (home n (T s).1 + d') % n = i
          · rw [c2, hTi]; exact hocc
          · rw [hTo _ c2 c1]
            rcases hp d' hd' with c | ⟨c, _⟩
            · exact c
            · exact absurd c c2

/-- .. and the items are the same -/
theorem items_move {n : Nat} {T : Nat → Nat × Int} {i j : Nat} (hi : i < n) (hj : j < n) (hne : j ≠ i) (hole : (T i).1 = 0) (hocc : (T j).1 ≠ 0) :
    (items (upd (upd T i (T j)) j (0, 0)) n).Perm (items T n) := by
  rw [upd_comm T (fun e => hne e.symm)]
  have h1 := items_fill (upd T j (0, 0)) i (T j) hocc (by rw [upd_other _ _ _ (fun e => hne e.symm)]; exact hole) n hi
  exact h1.trans (items_take T j n hj hocc).symm

/-- a table that is right with its hole keeps still -/
theorem Ok.still {n : Nat} {T : Nat → Nat × Int} (hok : Ok n T) {i D : Nat} (hi : i < n) (h1 : 1 ≤ D) (hD : D < n) (hole : (T i).1 = 0) (hocc : (T ((i + D) % n)).1 ≠ 0) :
    dist n (home n (T ((i + D) % n)).1) ((i + D) % n) < D := by
  have h0 : 0 < n := by omega
  apply Classical.byContradiction
  intro c
  obtain ⟨d, hdn, hto, hp⟩ := hok.path _ (Nat.mod_lt _ h0) hocc
  have hdd : dist n (home n (T ((i + D) % n)).1) ((i + D) % n) = d := by
    have e := dist_of (n := n) (a := home n (T ((i + D) % n)).1) (d := d) (home_lt h0 _) hdn
    rw [hto] at e; exact e
  rw [hdd] at c
  have e := mod_sub (x := D) hto (by omega) (by omega)
  rw [show home n (T ((i + D) % n)).1 + d - D = home n (T ((i + D) % n)).1 + (d - D) by omega, show i + D - D = i by omega, Nat.mod_eq_of_lt hi] at e
  have := hp (d - D) (by omega)
  rw [e] at this
  exact this hole

end Go.Proofs.Qxb6602356a.Tbl
