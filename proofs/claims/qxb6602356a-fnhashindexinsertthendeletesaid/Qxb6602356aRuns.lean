/-
  PLAIN LAWS: the runs by which the table's invariant is checked; powers of two.
-/
import Derived.Test.Qxb6602356aTable
namespace Go.Proofs.Qxb6602356a.Tbl

theorem mod_sub {a b n x : Nat} (h : a % n = b % n) (ha : x ≤ a) (hb : x ≤ b) : (a - x) % n = (b - x) % n := by
  have e : ((a : Int) - x) % n = ((b : Int) - x) % n := (Int.emod_sub_cancel_right (x : Int)).2 (by exact_mod_cast h)
  have e1 : ((a - x : Nat) : Int) = (a : Int) - x := by omega
  have e2 : ((b - x : Nat) : Int) = (b : Int) - x := by omega
  rw [← e1, ← e2] at e
  exact_mod_cast e

/-- how far b lies behind a, going round n -/
def dist (n a b : Nat) : Nat := (b + n - a) % n

theorem dist_lt {n : Nat} (h0 : 0 < n) (a b : Nat) : dist n a b < n := Nat.mod_lt _ h0

theorem dist_to {n a b : Nat} (ha : a < n) (hb : b < n) : (a + dist n a b) % n = b := by
  unfold dist
  by_cases c : a ≤ b
  · rw [show b + n - a = (b - a) + n by omega, Nat.add_mod_right, Nat.mod_eq_of_lt (a := b - a) (by omega), show a + (b - a) = b by omega, Nat.mod_eq_of_lt hb]
  · rw [Nat.mod_eq_of_lt (a := b + n - a) (by omega), show a + (b + n - a) = b + n by omega, Nat.add_mod_right, Nat.mod_eq_of_lt hb]

theorem dist_of {n a d : Nat} (ha : a < n) (hd : d < n) : dist n a ((a + d) % n) = d := by
  unfold dist
  by_cases c : a + d < n
  · rw [Nat.mod_eq_of_lt c, show a + d + n - a = d + n by omega, Nat.add_mod_right, Nat.mod_eq_of_lt hd]
  · rw [Nat.mod_eq_sub_mod (a := a + d) (by omega), Nat.mod_eq_of_lt (a := a + d - n) (by omega), show a + d - n + n - a = d by omega, Nat.mod_eq_of_lt hd]

/-- .. as the walk comes to it -/
theorem dist_int {n a b : Nat} (ha : a < n) : (((b : Int) - (a : Int)) % (n : Int)) = ((dist n a b : Nat) : Int) := by
  unfold dist
  rw [Int.natCast_emod, show ((b + n - a : Nat) : Int) = (b : Int) - a + n by omega, Int.add_emod_right]

/-- the length of the stretch of occupied slots that ends k steps behind e -/
def runOf (t : Nat → Nat × Int) (n e : Nat) : Nat → Nat
  | 0 => 0
  | k + 1 => if (t ((e + (k + 1)) % n)).1 = 0 then 0 else runOf t n e k + 1

theorem runOf_le (t : Nat → Nat × Int) (n e : Nat) : ∀ k, runOf t n e k ≤ k
  | 0 => Nat.le_refl _
  | k + 1 => by
    have := runOf_le t n e k
    rw [runOf]; split <;> omega

theorem runOf_occ (t : Nat → Nat × Int) (n e : Nat) : ∀ k d, d < runOf t n e k → (t ((e + k - d) % n)).1 ≠ 0
  | 0, d, h => absurd h (Nat.not_lt_zero d)
  | k + 1, d, h => by
    rw [runOf] at h
    split at h
    · exact absurd h (Nat.not_lt_zero d)
    · rename_i c
      cases d with
      | zero => exact c
      | succ d =>
        rw [show e + (k + 1) - (d + 1) = e + k - d by omega]
        exact runOf_occ t n e k d (by omega)

theorem runOf_empty (t : Nat → Nat × Int) (n e : Nat) (he : (t (e % n)).1 = 0) : ∀ k, (t ((e + k - runOf t n e k) % n)).1 = 0
  | 0 => he
  | k + 1 => by
    rw [runOf]
    split
    · rename_i c; exact c
    · rw [show e + (k + 1) - (runOf t n e k + 1) = e + k - runOf t n e k by omega]
      exact runOf_empty t n e he k

theorem reach_iff {t : Nat → Nat × Int} {n e h k : Nat} (h0 : 0 < n) (he : (t (e % n)).1 = 0) (hocc : (t ((e + k) % n)).1 ≠ 0) :
    Reach t n h ((e + k) % n) ↔ dist n (home n h) ((e + k) % n) < runOf t n e k := by
  have hh := home_lt h0 h
  have hr := runOf_le t n e k
  constructor
  · rintro ⟨d, hd, hto, hpath⟩
    have hdd : dist n (home n h) ((e + k) % n) = d := by rw [← hto]; exact dist_of hh hd
    rw [hdd]
    apply Classical.byContradiction
    intro c
    have hemp := runOf_empty t n e he k
    by_cases r0 : runOf t n e k = 0
    · rw [r0, Nat.sub_zero] at hemp; exact hocc hemp
    · have hm := mod_sub (x := runOf t n e k) hto (by omega) (by omega)
      rw [show home n h + d - runOf t n e k = home n h + (d - runOf t n e k) by omega] at hm
      rw [← hm] at hemp
      exact hpath _ (by omega) hemp
  · intro hlt
    have hto := dist_to hh (Nat.mod_lt (e + k) h0)
    refine ⟨_, dist_lt h0 _ _, hto, fun d' hd' => ?_⟩
    generalize dist n (home n h) ((e + k) % n) = d at hlt hto hd'
    have hm := mod_sub (x := d - d') hto (by omega) (by omega)
    rw [show home n h + d - (d - d') = home n h + d' by omega] at hm
    rw [hm]
    exact runOf_occ t n e k (d - d') (by omega)

/-- the check of the runs says just that every item can be reached -/
theorem runs_iff {t : Nat → Nat × Int} {n e : Nat} (hen : e < n) (he : (t e).1 = 0) :
    (∀ k, 1 ≤ k → k ≤ n → (t ((e + k) % n)).1 ≠ 0 → dist n (home n (t ((e + k) % n)).1) ((e + k) % n) < runOf t n e k) ↔
      ∀ i, i < n → (t i).1 ≠ 0 → Reach t n (t i).1 i := by
  have h0 : 0 < n := by omega
  have he' : (t (e % n)).1 = 0 := by rw [Nat.mod_eq_of_lt hen]; exact he
  constructor
  · intro H i hi hocc
    have hk : ∃ k, 1 ≤ k ∧ k ≤ n ∧ (e + k) % n = i := by
      by_cases c : e < i
      · exact ⟨i - e, by omega, by omega, by rw [show e + (i - e) = i by omega, Nat.mod_eq_of_lt hi]⟩
      · exact ⟨i + n - e, by omega, by omega, by rw [show e + (i + n - e) = i + n by omega, Nat.add_mod_right, Nat.mod_eq_of_lt hi]⟩
    obtain ⟨k, h1, h2, rfl⟩ := hk
    exact (reach_iff h0 he' hocc).2 (H k h1 h2 hocc)
  · intro H k _ _ hocc
    exact (reach_iff h0 he' hocc).1 (H _ (Nat.mod_lt _ h0) hocc)

/-! ### powers of two -/

theorem and_pred_pow : ∀ (n : Nat), 0 < n → n &&& (n - 1) = 0 → ∃ k, n = 2 ^ k := by
  intro n
  induction n using Nat.strongRecOn with
  | _ n ih =>
    intro h0 hz
    by_cases c : n % 2 = 0
    · obtain ⟨m, rfl⟩ : ∃ m, n = 2 * m := ⟨n / 2, by omega⟩
      have hm : m &&& (m - 1) = 0 := by
        apply Nat.eq_of_testBit_eq
        intro i
        have hb : ((2 * m) &&& (2 * m - 1)).testBit (i + 1) = false := by rw [hz]; exact Nat.zero_testBit _
        rw [Nat.testBit_and, Nat.testBit_succ, Nat.testBit_succ, show 2 * m / 2 = m by omega, show (2 * m - 1) / 2 = m - 1 by omega] at hb
        rw [Nat.testBit_and, Nat.zero_testBit]; exact hb
      obtain ⟨k, hk⟩ := ih m (by omega) (by omega) hm
      exact ⟨k + 1, by rw [Nat.pow_succ]; omega⟩
    · obtain ⟨m, rfl⟩ : ∃ m, n = 2 * m + 1 := ⟨n / 2, by omega⟩
      have hm : m = 0 := by
        apply Nat.eq_of_testBit_eq
        intro i
        have hb : ((2 * m + 1) &&& (2 * m + 1 - 1)).testBit (i + 1) = false := by rw [hz]; exact Nat.zero_testBit _
        rw [Nat.testBit_and, Nat.testBit_succ, Nat.testBit_succ, show (2 * m + 1) / 2 = m by omega, show (2 * m + 1 - 1) / 2 = m by omega, Bool.and_self] at hb
        rw [hb, Nat.zero_testBit]
      exact ⟨0, by rw [hm]⟩

theorem pow_and_pred (k : Nat) : 2 ^ k &&& (2 ^ k - 1) = 0 := by
  rw [Nat.and_two_pow_sub_one_eq_mod, Nat.mod_self]

end Go.Proofs.Qxb6602356a.Tbl
