/-
  THE WALKS OF Status.Valid, Status.Final, namedStatus AND FnStatusLetterClasses.
-/
import Derived.Test.Qxb6601364aRows
import Derived.WalkKit
import Derived.ProofKit
namespace Go.Proofs.Qxb6601364a
open Go.RowKit

/-- is the byte one of the ten status letters? -/
def isV (b : Int) : Bool := decide (b = 105 ∨ b = 97 ∨ b = 82 ∨ b = 67 ∨ b = 117 ∨ b = 118 ∨ b = 85 ∨ b = 100 ∨ b = 101 ∨ b = 88)
/-- .. and in upper case? -/
def isF (b : Int) : Bool := isV b && decide (65 ≤ b) && decide (b ≤ 90)
/-- the status letter by its number -/
def nam : Nat → Int
  | 0 => 105 | 1 => 97 | 2 => 82 | 3 => 67 | 4 => 117 | 5 => 118 | 6 => 85 | 7 => 100 | 8 => 101 | _ => 88
/-- how many of the first 'k' bytes are valid -/
def cntV : Nat → Nat
  | 0 => 0
  | k + 1 => cntV k + (isV (k : Int)).toNat
/-- how many of the first 'k' bytes are final -/
def cntF : Nat → Nat
  | 0 => 0
  | k + 1 => cntF k + (isF (k : Int)).toNat

set_option maxRecDepth 100000 in
theorem cntV_all : cntV 256 = 10 := by decide
set_option maxRecDepth 100000 in
theorem cntF_all : cntF 256 = 4 := by decide
theorem cntV_le (k : Nat) : cntV k ≤ k := by
  induction k with
  | zero => exact Nat.le_refl _
  | succ k ih => have : (isV (k : Int)).toNat ≤ 1 := by cases isV (k : Int) <;> decide
                 simp only [cntV]; omega
theorem cntF_le (k : Nat) : cntF k ≤ k := by
  induction k with
  | zero => exact Nat.le_refl _
  | succ k ih => have : (isF (k : Int)).toNat ≤ 1 := by cases isF (k : Int) <;> decide
                 simp only [cntF]; omega

theorem nam_valid : ∀ k, k < 10 → isV (nam k) = true := by decide
theorem nam_apart : ∀ k, k < 10 → ∀ l, l < k → nam l ≠ nam k := by decide

theorem valid_any (b : Int) (w : World) :
    Calls Try.prog 6 #[.int .u8 b] w fun e w' => e = .returned (.bool (isV b)) ∧ w' = w := by
  by_cases h1 : b = 105
  · subst h1; go_enter Try.func6, Try.ntmps6; go_wp2; go_ret; exact ⟨rfl, rfl⟩
  by_cases h2 : b = 97
  · subst h2; go_enter Try.func6, Try.ntmps6; go_wp2; go_ret; exact ⟨rfl, rfl⟩
  by_cases h3 : b = 82
  · subst h3; go_enter Try.func6, Try.ntmps6; go_wp2; go_ret; exact ⟨rfl, rfl⟩
  by_cases h4 : b = 67
  · subst h4; go_enter Try.func6, Try.ntmps6; go_wp2; go_ret; exact ⟨rfl, rfl⟩
  by_cases h5 : b = 117
  · subst h5; go_enter Try.func6, Try.ntmps6; go_wp2; go_ret; exact ⟨rfl, rfl⟩
  by_cases h6 : b = 118
  · subst h6; go_enter Try.func6, Try.ntmps6; go_wp2; go_ret; exact ⟨rfl, rfl⟩
  by_cases h7 : b = 85
  · subst h7; go_enter Try.func6, Try.ntmps6; go_wp2; go_ret; exact ⟨rfl, rfl⟩
  by_cases h8 : b = 100
  · subst h8; go_enter Try.func6, Try.ntmps6; go_wp2; go_ret; exact ⟨rfl, rfl⟩
  by_cases h9 : b = 101
  · subst h9; go_enter Try.func6, Try.ntmps6; go_wp2; go_ret; exact ⟨rfl, rfl⟩
  by_cases h10 : b = 88
  · subst h10; go_enter Try.func6, Try.ntmps6; go_wp2; go_ret; exact ⟨rfl, rfl⟩
  have hr : isV b = false := by simp [isV, *]
  rw [hr]
  go_enter Try.func6, Try.ntmps6
  go_wp2
  go_ret
  exact ⟨rfl, rfl⟩

theorem final_any (b : Int) (w : World) :
    Calls Try.prog 7 #[.int .u8 b] w fun e w' => e = .returned (.bool (isF b)) ∧ w' = w := by
  cases hv : isV b
  · have hr : isF b = false := by simp [isF, hv]
    rw [hr]
    go_enter Try.func7, Try.ntmps7
    go_wp2_with (go_at_call 6; refine (valid_any b _).mono ?_; rw [hv]; rintro e w' ⟨rfl, hw'⟩; have hw'' := hw'.symm; clear hw'; subst hw'')
    go_ret
    exact ⟨rfl, rfl⟩
  · by_cases h1 : 65 ≤ b
    · by_cases h2 : b ≤ 90
      · have hr : isF b = true := by simp [isF, hv, h1, h2]
        rw [hr]
        go_enter Try.func7, Try.ntmps7
        go_wp2_with (go_at_call 6; refine (valid_any b _).mono ?_; rw [hv]; rintro e w' ⟨rfl, hw'⟩; have hw'' := hw'.symm; clear hw'; subst hw'')
        go_ret
        exact ⟨rfl, rfl⟩
      · have hr : isF b = false := by simp [isF, h2]
        rw [hr]
        go_enter Try.func7, Try.ntmps7
        go_wp2_with (go_at_call 6; refine (valid_any b _).mono ?_; rw [hv]; rintro e w' ⟨rfl, hw'⟩; have hw'' := hw'.symm; clear hw'; subst hw'')
        go_ret
        refine ⟨?_, rfl⟩
        show Ending.returned (Value.bool (decide (b ≤ 90))) = _
        rw [decide_eq_false (by omega)]
    · have hr : isF b = false := by simp [isF, h1]
      rw [hr]
      go_enter Try.func7, Try.ntmps7
      go_wp2_with (go_at_call 6; refine (valid_any b _).mono ?_; rw [hv]; rintro e w' ⟨rfl, hw'⟩; have hw'' := hw'.symm; clear hw'; subst hw'')
      go_ret
      exact ⟨rfl, rfl⟩

theorem named_any (k : Nat) (hk : k < 10) (w : World) :
    Calls Try.prog 8 #[.int .i64 (k : Int)] w fun e w' => e = .returned (.int .u8 (nam k)) ∧ w' = w := by
  obtain rfl | rfl | rfl | rfl | rfl | rfl | rfl | rfl | rfl | rfl : k = 0 ∨ k = 1 ∨ k = 2 ∨ k = 3 ∨ k = 4 ∨ k = 5 ∨ k = 6 ∨ k = 7 ∨ k = 8 ∨ k = 9 := by omega
  all_goals
    go_enter Try.func8, Try.ntmps8
    go_wp2
    go_ret
    exact ⟨rfl, rfl⟩

theorem final_valid (b : Int) (h : isV b = false) : isF b = false := by simp [isF, h]
theorem valid_letter : ∀ k : Nat, k < 256 → isV (k : Int) = true → isF (k : Int) = true → 65 ≤ k ∧ k ≤ 90 := by
  intro k _ hv hf
  simp [isF, hv] at hf
  omega
theorem valid_low : ∀ k : Nat, k < 256 → isV (k : Int) = true → isF (k : Int) = false → 97 ≤ k ∧ k ≤ 122 := by
  intro k _ hv hf
  simp [isF, hv] at hf
  simp only [isV, decide_eq_true_eq] at hv
  omega

set_option maxHeartbeats 2000000 in
set_option maxRecDepth 100000 in
theorem classes_any (w : World) :
    Calls Try.prog 3 #[] w fun e w' => e = .returned (.bool true) ∧ w' = w := by
  go_enter Try.func3, Try.ntmps3
  go_wp2
  go_loop [1, 2, 3] (fun v f i => ∃ k : Nat, k ≤ 256 ∧ i = .int .i64 (k : Int) ∧ v = .int .i64 ((cntV k : Nat) : Int) ∧ f = .int .i64 ((cntF k : Nat) : Int)) (fun _ _ i => 256 - (intOf i).toNat)
  case atStart => exact ⟨0, by omega, rfl, rfl, rfl⟩
  case round =>
    obtain ⟨k, hk, rfl, rfl, rfl⟩ := hrel
    have b1 := cntV_le k
    have b2 := cntF_le k
    by_cases hlt : k < 256
    · have c1 : (k : Int) < 256 := by omega
      cases hv : isV (k : Int)
      · have hf := final_valid _ hv
        have e1 : cntV (k + 1) = cntV k := by simp [cntV, hv]
        have e2 : cntF (k + 1) = cntF k := by simp [cntF, hf]
        go_wp2_with (first | (go_at_call 6; refine (valid_any _ _).mono ?_; rw [hv]; rintro e w' ⟨rfl, hw'⟩; have hw'' := hw'.symm; clear hw'; subst hw'') | (go_at_call 7; refine (final_any _ _).mono ?_; rw [hf]; rintro e w' ⟨rfl, hw'⟩; have hw'' := hw'.symm; clear hw'; subst hw''))
        go_round
        case rel => exact ⟨k + 1, by omega, by go_num, by rw [e1], by rw [e2]⟩
        case measure => simp [intOf]; omega
      · cases hf : isF (k : Int)
        · have hl := valid_low k hlt hv hf
          have e1 : cntV (k + 1) = cntV k + 1 := by simp [cntV, hv]
          have e2 : cntF (k + 1) = cntF k := by simp [cntF, hf]
          have d1 : (65 : Int) ≤ k := by omega
          have d2 : ¬ (k : Int) ≤ 90 := by omega
          have d3 : (97 : Int) ≤ k := by omega
          have d4 : (k : Int) ≤ 122 := by omega
          go_wp2_with (first | (go_at_call 6; refine (valid_any _ _).mono ?_; rw [hv]; rintro e w' ⟨rfl, hw'⟩; have hw'' := hw'.symm; clear hw'; subst hw'') | (go_at_call 7; refine (final_any _ _).mono ?_; rw [hf]; rintro e w' ⟨rfl, hw'⟩; have hw'' := hw'.symm; clear hw'; subst hw''))
          go_round
          case rel => exact ⟨k + 1, by omega, by go_num, by rw [e1]; simp, by rw [e2]⟩
          case measure => simp [intOf]; omega
        · have hl := valid_letter k hlt hv hf
          have e1 : cntV (k + 1) = cntV k + 1 := by simp [cntV, hv]
          have e2 : cntF (k + 1) = cntF k + 1 := by simp [cntF, hf]
          have d1 : (65 : Int) ≤ k := by omega
          have d2 : (k : Int) ≤ 90 := by omega
          have d3 : ¬ (97 : Int) ≤ k := by omega
          go_wp2_with (first | (go_at_call 6; refine (valid_any _ _).mono ?_; rw [hv]; rintro e w' ⟨rfl, hw'⟩; have hw'' := hw'.symm; clear hw'; subst hw'') | (go_at_call 7; refine (final_any _ _).mono ?_; rw [hf]; rintro e w' ⟨rfl, hw'⟩; have hw'' := hw'.symm; clear hw'; subst hw''))
          go_round
          case rel => exact ⟨k + 1, by omega, by go_num, by rw [e1]; simp, by rw [e2]; simp⟩
          case measure => simp [intOf]; omega
    · have hk' : k = 256 := by omega
      subst hk'
      rw [cntV_all, cntF_all]
      go_wp2
      go_loop [10] (fun i => ∃ k : Nat, k ≤ 10 ∧ i = .int .i64 (k : Int)) (fun i => 10 - (intOf i).toNat)
      case atStart => exact ⟨0, by omega, rfl⟩
      case round =>
        obtain ⟨k, hk, rfl⟩ := hrel
        by_cases hlt : k < 10
        · have c1 : (k : Int) < 10 := by omega
          have hv := nam_valid k hlt
          go_wp2_with (first | (go_at_call 8; refine (named_any k hlt _).mono ?_; rintro e w' ⟨rfl, hw'⟩; have hw'' := hw'.symm; clear hw'; subst hw'') | (go_at_call 6; refine (valid_any _ _).mono ?_; rw [hv]; rintro e w' ⟨rfl, hw'⟩; have hw'' := hw'.symm; clear hw'; subst hw''))
          go_loop [12] (fun i => ∃ l : Nat, l ≤ k ∧ i = .int .i64 (l : Int)) (fun i => k - (intOf i).toNat)
          case atStart => exact ⟨0, by omega, rfl⟩
          case round =>
            obtain ⟨l, hl, rfl⟩ := hrel
            by_cases hll : l < k
            · have c2 : (l : Int) < k := by omega
              have hne := nam_apart k hlt l hll
              go_wp2_with (go_at_call 8; refine (named_any l (by omega) _).mono ?_; rintro e w' ⟨rfl, hw'⟩; have hw'' := hw'.symm; clear hw'; subst hw'')
              go_round
              case rel => exact ⟨l + 1, by omega, by go_num⟩
              case measure => simp [intOf]; omega
            · have c2 : ¬ (l : Int) < k := by omega
              go_wp2
              go_round
              case rel => exact ⟨k + 1, by omega, by go_num⟩
              case measure => simp [intOf]; omega
        · have hk' : k = 10 := by omega
          subst hk'
          have f1 : isF 82 = true := by decide
          have f2 : isF 67 = true := by decide
          have f3 : isF 85 = true := by decide
          have f4 : isF 88 = true := by decide
          go_wp2_with (go_at_call 7; refine (final_any _ _).mono ?_; (first | rw [f1] | rw [f2] | rw [f3] | rw [f4]); rintro e w' ⟨rfl, hw'⟩; have hw'' := hw'.symm; clear hw'; subst hw'')
          go_ret
          exact ⟨rfl, rfl⟩

end Go.Proofs.Qxb6601364a
