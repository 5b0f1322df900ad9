/-
  THE WALK OF tableValidHiB1: it answers whether the two rows are a valid table.
-/
import Derived.Test.Qxb6602356aIndex
namespace Go.Proofs.Qxb6602356a
open Go.RowKit

theorem ret_bool {a b : Bool} (h : a = b) : Ending.returned (.bool a) = .returned (.bool b) := by rw [h]

theorem and_one (h : Nat) (hh : h < 18446744073709551616) : bits .and .u64 (h : Int) 1 = ((h % 2 : Nat) : Int) := by
  have h1 : (BitVec.ofInt 64 (h : Int)).toNat = h := by
    rw [BitVec.ofInt_natCast, BitVec.toNat_ofNat]; exact Nat.mod_eq_of_lt (by omega)
  show IntKind.u64.wrap ((BitVec.ofInt 64 (h : Int) &&& BitVec.ofInt 64 1).toNat : Int) = _
  rw [BitVec.toNat_and, h1, IntKind.wrap_u64, show (BitVec.ofInt 64 1).toNat = 1 from rfl, Nat.and_one_is_mod]
  omega

theorem and_nat64 (a b : Nat) (ha : a < 9223372036854775808) (hb : b < 9223372036854775808) : bits .and .i64 (a : Int) (b : Int) = ((a &&& b : Nat) : Int) := by
  have hx : a &&& b < 2 ^ 63 := Nat.and_lt_two_pow _ (by omega)
  have h1 : (BitVec.ofInt 64 (a : Int)).toNat = a := by
    rw [BitVec.ofInt_natCast, BitVec.toNat_ofNat]; exact Nat.mod_eq_of_lt (by omega)
  have h2 : (BitVec.ofInt 64 (b : Int)).toNat = b := by
    rw [BitVec.ofInt_natCast, BitVec.toNat_ofNat]; exact Nat.mod_eq_of_lt (by omega)
  show IntKind.i64.wrap ((BitVec.ofInt 64 (a : Int) &&& BitVec.ofInt 64 (b : Int)).toNat : Int) = _
  rw [BitVec.toNat_and, h1, h2, IntKind.wrap_i64]
  omega

set_option maxHeartbeats 400000 in
theorem valid_lens (a a' : Option Addr) (n cap m cap' : Nat) (c : Int) (w : World) (h : m ≠ n) :
    Calls Try.prog 9 #[.slice a n cap, .slice a' m cap', .int .i64 c] w fun e w' => e = .returned (.bool false) ∧ w' = w := by
  have hne : ((m : Int) == (n : Int)) = false := by rw [beq_eq_false_iff_ne]; omega
  go_enter Try.func9, Try.ntmps9
  go_wp2
  go_ret
  exact ⟨rfl, rfl⟩

set_option maxHeartbeats 400000 in
theorem valid_zero (a a' : Option Addr) (cap cap' : Nat) (c : Int) (w : World) :
    Calls Try.prog 9 #[.slice a 0 cap, .slice a' 0 cap', .int .i64 c] w fun e w' => e = .returned (.bool (c == 0)) ∧ w' = w := by
  go_enter Try.func9, Try.ntmps9
  go_wp2
  go_ret
  exact ⟨rfl, rfl⟩

set_option maxHeartbeats 400000 in
theorem valid_small (a a' : Option Addr) (n cap cap' : Nat) (c : Int) (w : World) (h0 : 0 < n) (hn : n < 16) :
    Calls Try.prog 9 #[.slice a n cap, .slice a' n cap', .int .i64 c] w fun e w' => e = .returned (.bool false) ∧ w' = w := by
  have h1 : ((n : Int) == 0) = false := by rw [beq_eq_false_iff_ne]; omega
  have h2 : (n : Int) < 16 := by omega
  go_enter Try.func9, Try.ntmps9
  go_wp2
  go_ret
  exact ⟨rfl, rfl⟩

set_option maxHeartbeats 400000 in
theorem valid_odd (a a' : Option Addr) (n cap cap' : Nat) (c : Int) (w : World) (hn : 16 ≤ n) (hm : n ≤ 1048576) (h : n &&& (n - 1) ≠ 0) :
    Calls Try.prog 9 #[.slice a n cap, .slice a' n cap', .int .i64 c] w fun e w' => e = .returned (.bool false) ∧ w' = w := by
  have h1 : ((n : Int) == 0) = false := by rw [beq_eq_false_iff_ne]; omega
  have h2 : ¬ (n : Int) < 16 := by omega
  have h3 : (bits .and .i64 (n : Int) ((n : Int) - 1) == 0) = false := by
    rw [show (n : Int) - 1 = ((n - 1 : Nat) : Int) by omega, and_nat64 n (n - 1) (by omega) (by omega), beq_eq_false_iff_ne]
    omega
  go_enter Try.func9, Try.ntmps9
  go_wp2
  go_ret
  exact ⟨rfl, rfl⟩

/-- what the first loop has seen of the first k slots -/
def Seen (t : Nat → Nat × Int) (k : Nat) : Prop := ∀ j, j < k → ((t j).1 = 0 → (t j).2 = 0) ∧ ((t j).1 ≠ 0 → (t j).1 % 2 = 1)

/-- the place of an empty slot among the first k, or -1 -/
def Gap (t : Nat → Nat × Int) (k : Nat) (em : Int) : Prop := (em = -1 ∧ ∀ j, j < k → (t j).1 ≠ 0) ∨ ∃ e : Nat, em = e ∧ e < k ∧ (t e).1 = 0

/-- it answers whether P -/
def Ans (P : Prop) (e : Ending) : Prop := ∃ v : Bool, e = .returned (.bool v) ∧ (v = true ↔ P)
theorem Ans.no {P : Prop} (h : ¬ P) : Ans P (.returned (.bool false)) := ⟨false, rfl, fun v => (by cases v), fun v => absurd v h⟩
theorem Ans.yes {P : Prop} (h : P) : Ans P (.returned (.bool true)) := ⟨true, rfl, fun _ => h, fun _ => rfl⟩

set_option maxHeartbeats 1000000 in
set_option maxRecDepth 100000 in
theorem valid_main (b off b' off' n cap cap' : Nat) (c : Int) (t : Nat → Nat × Int) (w : World) (hn : 16 ≤ n) (hm : n ≤ 1048576) (hp : Tbl.Pow n)
    (hh : ∀ j, j < n → w.cell? ⟨b, off + j, none⟩ = some (.int .u64 (((t j).1 : Nat) : Int))) (hpl : ∀ j, j < n → w.cell? ⟨b', off' + j, none⟩ = some (.int .i64 (t j).2)) (hf : ∀ j, (t j).1 < 18446744073709551616) :
    Calls Try.prog 9 #[.slice (some ⟨b, off, none⟩) n cap, .slice (some ⟨b', off', none⟩) n cap', .int .i64 c] w fun e w' => Ans (Tbl.Valid n t c) e ∧ w' = w := by
  have h1 : ((n : Int) == 0) = false := by rw [beq_eq_false_iff_ne]; omega
  have h2 : ¬ (n : Int) < 16 := by omega
  have hmask := hp.mask hm
  have h3 : (((n : Int) % (n : Int)) == 0) = true := by rw [Int.emod_self]; rfl
  go_enter Try.func9, Try.ntmps9
  go_wp2
  clear h3
  go_loop [8, 9, 10] (fun o em i => ∃ k : Nat, k ≤ n ∧ i = .int .i64 k ∧ o = .int .i64 ((Tbl.cnt t k : Nat) : Int) ∧ Seen t k ∧ ∃ g : Int, em = .int .i64 g ∧ Gap t k g) (fun _ _ i => n - (intOf i).toNat)
  case atStart => exact ⟨0, Nat.zero_le _, rfl, rfl, fun j hj => absurd hj (Nat.not_lt_zero j), -1, rfl, .inl ⟨rfl, fun j hj => absurd hj (Nat.not_lt_zero j)⟩⟩
  case round =>
    obtain ⟨k, hk, rfl, rfl, hseen, g, rfl, hgap⟩ := hrel
    have hcl := Tbl.cnt_le t k
    by_cases hlt : k < n
    · have c1 := hh k hlt
      have c2 := hpl k hlt
      have hmod := and_one (t k).1 (hf k)
      have HH : Hid (∀ j, j < n → w.cell? ⟨b, off + j, none⟩ = some (.int .u64 (((t j).1 : Nat) : Int))) := hh
      clear hh hpl
      by_cases hz : (t k).1 = 0
      · have hz' : ((((t k).1 : Nat) : Int) == 0) = true := by rw [hz]; rfl
        by_cases hq : (t k).2 = 0
        · have hq' : ((t k).2 == 0) = true := by rw [hq]; rfl
          have HS : Hid (Seen t (k + 1) ∧ Tbl.cnt t (k + 1) = Tbl.cnt t k ∧ ∀ g', (g < 0 → g' = (k : Int)) → (¬ g < 0 → g' = g) → Gap t (k + 1) g') := by
            refine ⟨fun j hj => ?_, by rw [Tbl.cnt, if_pos hz]; rfl, fun g' h1 h2 => ?_⟩
            · by_cases e : j = k
              · subst e; exact ⟨fun _ => hq, fun c => absurd hz c⟩
              · exact hseen j (by omega)
            · by_cases hg : g < 0
              · rw [h1 hg]; exact .inr ⟨k, rfl, by omega, hz⟩
              · rw [h2 hg]
                rcases hgap with ⟨e, _⟩ | ⟨e, he, hlt', hee⟩
                · omega
                · exact .inr ⟨e, he, by omega, hee⟩
          clear hz hq hseen hgap
          by_cases hg : g < 0
          · go_wp2
            go_round
            case rel =>
              obtain ⟨s1, s2, s3⟩ := HS.out
              exact ⟨k + 1, by omega, by go_num, by rw [s2], s1, _, rfl, s3 _ (fun _ => rfl) (fun c => absurd hg c)⟩
            case measure => simp [intOf]; omega
          · go_wp2
            go_round
            case rel =>
              obtain ⟨s1, s2, s3⟩ := HS.out
              exact ⟨k + 1, by omega, by go_num, by rw [s2], s1, _, rfl, s3 _ (fun c => absurd c hg) (fun _ => rfl)⟩
            case measure => simp [intOf]; omega
        · have hq' : ((t k).2 == 0) = false := by rw [beq_eq_false_iff_ne]; exact hq
          have HV : Hid (¬ Tbl.Valid n t c) := fun v => by
            rcases v with ⟨v, _⟩ | ⟨_, v, _⟩
            · omega
            · exact hq (v.zero k hlt hz)
          clear hz hq
          go_wp2
          go_ret
          exact ⟨Ans.no HV.out, rfl⟩
      · have hz' : ((((t k).1 : Nat) : Int) == 0) = false := by rw [beq_eq_false_iff_ne]; omega
        by_cases hq : (t k).1 % 2 = 1
        · have hq' : ((((t k).1 % 2 : Nat) : Int) == 0) = false := by rw [beq_eq_false_iff_ne]; omega
          have HS : Hid (Seen t (k + 1) ∧ Tbl.cnt t (k + 1) = Tbl.cnt t k + 1 ∧ Gap t (k + 1) g) := by
            refine ⟨fun j hj => ?_, by rw [Tbl.cnt, if_neg hz], ?_⟩
            · by_cases e : j = k
              · subst e; exact ⟨fun c => absurd c hz, fun _ => hq⟩
              · exact hseen j (by omega)
            · rcases hgap with ⟨e, ha⟩ | ⟨e, he, hlt', hee⟩
              · refine .inl ⟨e, fun j hj => ?_⟩
                by_cases ej : j = k
                · subst ej; exact hz
                · exact ha j (by omega)
              · exact .inr ⟨e, he, by omega, hee⟩
          generalize (t k).1 % 2 = M at hmod hq'
          clear hz hq hseen hgap
          go_wp2
          go_round
          case rel =>
            obtain ⟨s1, s2, s3⟩ := HS.out
            exact ⟨k + 1, by omega, by go_num, by rw [s2]; go_num, s1, _, rfl, s3⟩
          case measure => simp [intOf]; omega
        · have hq' : ((((t k).1 % 2 : Nat) : Int) == 0) = true := by rw [beq_iff_eq]; omega
          have HV : Hid (¬ Tbl.Valid n t c) := fun v => by
            rcases v with ⟨v, _⟩ | ⟨_, v, _⟩
            · omega
            · exact hq (v.odd k hlt hz)
          generalize (t k).1 % 2 = M at hmod hq'
          clear hz hq
          go_wp2
          go_ret
          exact ⟨Ans.no HV.out, rfl⟩
    · have e : n = k := by omega
      subst e
      have HH : Hid (∀ j, j < n → w.cell? ⟨b, off + j, none⟩ = some (.int .u64 (((t j).1 : Nat) : Int))) := hh
      have hge : g < 9223372036854775807 := by
        rcases hgap with ⟨e, _⟩ | ⟨e, he, h4, _⟩ <;> omega
      clear hh hpl
      by_cases hcc : ((Tbl.cnt t n : Nat) : Int) = c
      · subst hcc
        by_cases hl : 4 * Tbl.cnt t n ≤ 3 * n
        · have hl' : decide (3 * (n : Int) < 4 * ((Tbl.cnt t n : Nat) : Int)) = false := decide_eq_false (by omega)
          by_cases hg : g < 0
          · have HV : Hid (¬ Tbl.Valid n t ((Tbl.cnt t n : Nat) : Int)) := fun v => by
              rcases hgap with ⟨_, ha⟩ | ⟨e, he, _⟩
              · have := Tbl.cnt_full t n ha
                omega
              · omega
            have hg' : decide (g < 0) = true := decide_eq_true hg
            go_wp2
            go_ret
            exact ⟨Ans.no HV.out, rfl⟩
          · obtain ⟨e, rfl, hen, hee⟩ : ∃ e : Nat, g = e ∧ e < n ∧ (t e).1 = 0 := by
              rcases hgap with ⟨e, _⟩ | h
              · omega
              · exact h
            have Hcc : Hid (Seen t n ∧ (t e).1 = 0) := ⟨hseen, hee⟩
            clear hgap hseen hee
            have hg' : decide ((e : Int) < 0) = false := decide_eq_false (by omega)
            go_wp2
            clear hl' hg' hcl
            go_loop [12, 13] (fun r i => ∃ k : Nat, 1 ≤ k ∧ k ≤ n + 1 ∧ i = .int .i64 k ∧ r = .int .i64 ((Tbl.runOf t n e (k - 1) : Nat) : Int) ∧
              ∀ q, 1 ≤ q → q < k → (t ((e + q) % n)).1 ≠ 0 → Tbl.dist n (Tbl.home n (t ((e + q) % n)).1) ((e + q) % n) < Tbl.runOf t n e q) (fun _ i => n + 1 - (intOf i).toNat)
            case atStart => exact ⟨1, Nat.le_refl _, by omega, rfl, rfl, fun q h1 h2 => absurd h2 (by omega)⟩
            case round =>
              obtain ⟨k, hk1, hk2, rfl, rfl, hall⟩ := hrel
              obtain ⟨hseen, hee⟩ := Hcc.out
              have HA : Hid (∀ q, 1 ≤ q → q < k → (t ((e + q) % n)).1 ≠ 0 → Tbl.dist n (Tbl.home n (t ((e + q) % n)).1) ((e + q) % n) < Tbl.runOf t n e q) := hall
              clear hall
              by_cases hlt : k ≤ n
              · have hlt' : (k : Int) ≤ (n : Int) := by omega
                have hI : (e + k) % n < n := Nat.mod_lt _ (by omega)
                have eI : ((e : Int) + (k : Int)) % (n : Int) = (((e + k) % n : Nat) : Int) := by rw [Int.natCast_emod]; rfl
                have hrl := Tbl.runOf_le t n e (k - 1)
                have eH : wrap64 ((((t ((e + k) % n)).1 : Nat) : Int) / 2) % (n : Int) = ((Tbl.home n (t ((e + k) % n)).1 : Nat) : Int) := by
                  unfold Tbl.home; rw [wrap64_half (hf _), Int.natCast_emod]
                have hH := Tbl.home_lt (n := n) (by omega) (t ((e + k) % n)).1
                have eD := Tbl.dist_int (n := n) (a := Tbl.home n (t ((e + k) % n)).1) (b := (e + k) % n) hH
                have hD := Tbl.dist_lt (n := n) (by omega) (Tbl.home n (t ((e + k) % n)).1) ((e + k) % n)
                have c1 := HH.out ((e + k) % n) hI
                have HR : Hid (Tbl.runOf t n e k = if (t ((e + k) % n)).1 = 0 then 0 else Tbl.runOf t n e (k - 1) + 1) := by
                  show _ = _
                  obtain ⟨k', rfl⟩ : ∃ k', k = k' + 1 := ⟨k - 1, by omega⟩
                  rfl
                have hne : ∀ q, 1 ≤ q → q < k + 1 → ((t ((e + k) % n)).1 ≠ 0 → Tbl.dist n (Tbl.home n (t ((e + k) % n)).1) ((e + k) % n) < Tbl.runOf t n e k) → (t ((e + q) % n)).1 ≠ 0 → Tbl.dist n (Tbl.home n (t ((e + q) % n)).1) ((e + q) % n) < Tbl.runOf t n e q := by
                  intro q h1 h2 h3 h4
                  by_cases eq : q = k
                  · subst eq; exact h3 h4
                  · exact HA.out q h1 (by omega) h4
                by_cases hz : (t ((e + k) % n)).1 = 0
                · have HN : Hid (((Tbl.runOf t n e (k + 1 - 1) : Nat) : Int) = 0 ∧ ∀ q, 1 ≤ q → q < k + 1 → (t ((e + q) % n)).1 ≠ 0 → Tbl.dist n (Tbl.home n (t ((e + q) % n)).1) ((e + q) % n) < Tbl.runOf t n e q) :=
                    ⟨by rw [show k + 1 - 1 = k by omega, HR.out, if_pos hz]; rfl, fun q h1 h2 => hne q h1 h2 (fun c => absurd hz c)⟩
                  rw [hz] at c1
                  clear hz hne HR HA eH hH eD hD hseen hee
                  generalize (e + k) % n = I at eI hI c1
                  have hI' : (I : Int) < (n : Int) := by omega
                  go_wp2
                  go_round
                  case rel => exact ⟨k + 1, by omega, by omega, by go_num, by rw [HN.out.1], HN.out.2⟩
                  case measure => simp [intOf]; omega
                · have hz' : ((((t ((e + k) % n)).1 : Nat) : Int) == 0) = false := by rw [beq_eq_false_iff_ne]; omega
                  have hRk : Tbl.runOf t n e k = Tbl.runOf t n e (k - 1) + 1 := by rw [HR.out, if_neg hz]
                  by_cases hd : Tbl.dist n (Tbl.home n (t ((e + k) % n)).1) ((e + k) % n) < Tbl.runOf t n e (k - 1) + 1
                  · have HN : Hid (((Tbl.runOf t n e (k + 1 - 1) : Nat) : Int) = ((Tbl.runOf t n e (k - 1) : Nat) : Int) + 1 ∧ ∀ q, 1 ≤ q → q < k + 1 → (t ((e + q) % n)).1 ≠ 0 → Tbl.dist n (Tbl.home n (t ((e + q) % n)).1) ((e + q) % n) < Tbl.runOf t n e q) :=
                      ⟨by rw [show k + 1 - 1 = k by omega, hRk]; omega, fun q h1 h2 => hne q h1 h2 (fun _ => by rw [hRk]; exact hd)⟩
                    clear hz hne HR HA hseen hee hRk
                    generalize Tbl.dist n (Tbl.home n (t ((e + k) % n)).1) ((e + k) % n) = D at hd eD hD
                    generalize Tbl.home n (t ((e + k) % n)).1 = H at eH hH eD
                    generalize (t ((e + k) % n)).1 = Z at hz' eH c1
                    generalize (e + k) % n = I at eI hI c1 eD
                    have hI' : (I : Int) < (n : Int) := by omega
                    have hd' : ¬ ((Tbl.runOf t n e (k - 1) : Nat) : Int) + 1 ≤ (D : Int) := by omega
                    go_wp2
                    go_round
                    case rel => exact ⟨k + 1, by omega, by omega, by go_num, by rw [HN.out.1], HN.out.2⟩
                    case measure => simp [intOf]; omega
                  · have HV : Hid (¬ Tbl.Valid n t ((Tbl.cnt t n : Nat) : Int)) := fun v => by
                      rcases v with ⟨v, _⟩ | ⟨_, v, _, _⟩
                      · omega
                      · exact hd (by rw [← hRk]; exact (Tbl.reach_iff (by omega) (by rw [Nat.mod_eq_of_lt hen]; exact hee) hz).1 (v.path _ hI hz))
                    clear hz hne HR HA hseen hee hRk
                    generalize Tbl.dist n (Tbl.home n (t ((e + k) % n)).1) ((e + k) % n) = D at hd eD hD
                    generalize Tbl.home n (t ((e + k) % n)).1 = H at eH hH eD
                    generalize (t ((e + k) % n)).1 = Z at hz' eH c1
                    generalize (e + k) % n = I at eI hI c1 eD
                    have hI' : (I : Int) < (n : Int) := by omega
                    have hd' : ((Tbl.runOf t n e (k - 1) : Nat) : Int) + 1 ≤ (D : Int) := by omega
                    go_wp2
                    go_ret
                    exact ⟨Ans.no HV.out, rfl⟩
              · go_wp2
                go_ret
                refine ⟨Ans.yes (.inr ⟨hp, ⟨fun i hi => (hseen i hi).1, fun i hi => (hseen i hi).2, (Tbl.runs_iff hen hee).1 (fun q h1 h2 => HA.out q h1 (by omega))⟩, rfl, by omega⟩), rfl⟩
        · have hl' : decide (3 * (n : Int) < 4 * ((Tbl.cnt t n : Nat) : Int)) = true := decide_eq_true (by omega)
          have HV : Hid (¬ Tbl.Valid n t ((Tbl.cnt t n : Nat) : Int)) := fun v => by
            rcases v with ⟨v, _⟩ | ⟨_, _, _, v⟩ <;> omega
          go_wp2
          go_ret
          exact ⟨Ans.no HV.out, rfl⟩
      · have hcc' : (((Tbl.cnt t n : Nat) : Int) == c) = false := by rw [beq_eq_false_iff_ne]; exact hcc
        have HV : Hid (¬ Tbl.Valid n t c) := fun v => by
          rcases v with ⟨v, _⟩ | ⟨_, _, v, _⟩
          · omega
          · exact hcc v
        go_wp2
        go_ret
        exact ⟨Ans.no HV.out, rfl⟩

/-- a row of hashes: nil or not, of n cells -/
def HRow (w : World) (a : Option Addr) (n : Nat) (f : Nat → Nat) : Prop :=
  0 < n → ∃ b off, a = some ⟨b, off, none⟩ ∧ b < w.heap.size ∧ ∀ j, j < n → w.cell? ⟨b, off + j, none⟩ = some (.int .u64 ((f j : Nat) : Int))
/-- a row of places -/
def PRow (w : World) (a : Option Addr) (n : Nat) (g : Nat → Int) : Prop :=
  0 < n → ∃ b off, a = some ⟨b, off, none⟩ ∧ b < w.heap.size ∧ ∀ j, j < n → w.cell? ⟨b, off + j, none⟩ = some (.int .i64 (g j))

theorem HRow.below {w w' : World} {a : Option Addr} {n : Nat} {f : Nat → Nat} (h : HRow w a n f) (hb : Below w.heap.size w w') : HRow w' a n f := fun h0 => by
  obtain ⟨b, off, ha, hlt, hc⟩ := h h0
  exact ⟨b, off, ha, Nat.lt_of_lt_of_le hlt hb.size, fun j hj => by rw [hb.cell (p := ⟨b, off + j, none⟩) hlt]; exact hc j hj⟩
theorem PRow.below {w w' : World} {a : Option Addr} {n : Nat} {f : Nat → Int} (h : PRow w a n f) (hb : Below w.heap.size w w') : PRow w' a n f := fun h0 => by
  obtain ⟨b, off, ha, hlt, hc⟩ := h h0
  exact ⟨b, off, ha, Nat.lt_of_lt_of_le hlt hb.size, fun j hj => by rw [hb.cell (p := ⟨b, off + j, none⟩) hlt]; exact hc j hj⟩

/-- tableValid, whole -/
theorem valid_any (a a' : Option Addr) (n cap m cap' : Nat) (c : Int) (t : Nat → Nat × Int) (w : World) (hn : n ≤ 1048576)
    (hh : HRow w a n (fun j => (t j).1)) (hp : PRow w a' m (fun j => (t j).2)) (hf : ∀ j, (t j).1 < 18446744073709551616) :
    Calls Try.prog 9 #[.slice a n cap, .slice a' m cap', .int .i64 c] w fun e w' => Ans (m = n ∧ Tbl.Valid n t c) e ∧ w' = w := by
  by_cases hl : m = n
  · subst hl
    by_cases h0 : m = 0
    · subst h0
      refine (valid_zero a a' cap cap' c w).mono ?_
      rintro e w' ⟨rfl, rfl⟩
      refine ⟨⟨_, rfl, fun v => ⟨rfl, .inl ⟨rfl, by simpa using v⟩⟩, fun v => ?_⟩, rfl⟩
      rcases v.2 with ⟨_, v⟩ | ⟨v, _⟩
      · simp [v]
      · exact absurd v.1 (by omega)
    · by_cases h16 : m < 16
      · refine (valid_small a a' m cap cap' c w (by omega) h16).mono ?_
        rintro e w' ⟨rfl, rfl⟩
        refine ⟨Ans.no ?_, rfl⟩
        rintro ⟨_, v⟩
        rcases v with ⟨v, _⟩ | ⟨v, _⟩
        · omega
        · have := v.1; omega
      · by_cases hpow : m &&& (m - 1) = 0
        · have hP : Tbl.Pow m := ⟨by omega, Tbl.and_pred_pow m (by omega) hpow⟩
          obtain ⟨b, off, rfl, _, hc⟩ := hh (by omega)
          obtain ⟨b', off', rfl, _, hc'⟩ := hp (by omega)
          refine (valid_main b off b' off' m cap cap' c t w (by omega) hn hP hc hc' hf).mono ?_
          rintro e w' ⟨⟨v, rfl, hv⟩, rfl⟩
          exact ⟨⟨v, rfl, fun x => ⟨rfl, hv.1 x⟩, fun x => hv.2 x.2⟩, rfl⟩
        · refine (valid_odd a a' m cap cap' c w (by omega) hn hpow).mono ?_
          rintro e w' ⟨rfl, rfl⟩
          refine ⟨Ans.no ?_, rfl⟩
          rintro ⟨_, v⟩
          rcases v with ⟨v, _⟩ | ⟨v, _⟩
          · omega
          · obtain ⟨_, k, hk⟩ := v
            rw [hk] at hpow
            exact hpow (Tbl.pow_and_pred k)
  · refine (valid_lens a a' n cap m cap' c w hl).mono ?_
    rintro e w' ⟨rfl, rfl⟩
    exact ⟨Ans.no (fun v => hl v.1), rfl⟩

end Go.Proofs.Qxb6602356a
