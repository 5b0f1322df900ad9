/-
  THE WALK OF FnFilterHasFullAdmitsEmptyRefuses.
-/
import Derived.Test.Qxb6602307aClone
namespace Go.Proofs.Qxb6602307a
open Go.RowKit

set_option maxHeartbeats 400000 in
theorem bytes15_any (a : Option Addr) (n cap : Nat) (h : Int) (w : World) (hs : n ≤ 9223372036854775807) :
    Calls Try.prog 15 #[.slice a n cap, .int .u64 h] w fun e w' => e = .returned (.bool (decide (n ≤ 1048576))) ∧ w' = w := by
  by_cases hn : n ≤ 1048576
  · have h1 : ¬ (1048576 : Int) < (n : Int) := by omega
    rw [decide_eq_true hn]
    go_enter Try.func15, Try.ntmps15
    go_wp2
    go_ret
    exact ⟨rfl, rfl⟩
  · have h1 : (1048576 : Int) < (n : Int) := by omega
    rw [decide_eq_false hn]
    go_enter Try.func15, Try.ntmps15
    go_wp2
    go_ret
    exact ⟨rfl, rfl⟩

set_option maxHeartbeats 400000 in
theorem full_long (a : Option Addr) (n cap : Nat) (h : Int) (w : World) (hs : n ≤ 9223372036854775807) (hn : 131072 < n) :
    Calls Try.prog 6 #[.slice a n cap, .int .u64 h] w fun e w' => e = .returned (.bool true) ∧ Below w.heap.size w w' := by
  have h1 : (131072 : Int) < (n : Int) := by omega
  by_cases h2 : n ≤ 1048576
  · go_enter Try.func6, Try.ntmps6
    go_wp2_with (go_at_call 15; refine (bytes15_any a n cap h _ hs).mono ?_; rw [decide_eq_true h2]; rintro e w' ⟨rfl, rfl⟩)
    go_ret
    exact ⟨rfl, Below.refl _ _⟩
  · go_enter Try.func6, Try.ntmps6
    go_wp2_with (go_at_call 15; refine (bytes15_any a n cap h _ hs).mono ?_; rw [decide_eq_false h2]; rintro e w' ⟨rfl, rfl⟩)
    go_ret
    exact ⟨rfl, Below.refl _ _⟩

set_option maxHeartbeats 400000 in
theorem full_nil (h : Int) (w : World) :
    Calls Try.prog 6 #[.slice none 0 0, .int .u64 h] w fun e w' => e = .returned (.bool true) ∧ Below w.heap.size w w' := by
  have hmk := make0
  go_enter Try.func6, Try.ntmps6
  go_wp2_with (first | (go_at_call 15; refine (bytes15_any none 0 0 h _ (by omega)).mono ?_; rintro e w' ⟨rfl, hw'⟩; have hw'' := hw'.symm; clear hw'; subst hw'') | (go_at_call 13; refine (clone_nil _).mono ?_; rintro e w' ⟨rfl, hw'⟩; have hw'' := hw'.symm; clear hw'; subst hw''))
  go_loop [7] (fun i => i = .int .i64 0) (fun _ => 0)
  case atStart => rfl
  case round =>
    obtain rfl := hrel
    go_wp2_with (go_at_call 14; refine (zzHas_of _ h true _ (fun w0 _ => has_empty _ _ h w0)).mono ?_; rintro e w' ⟨rfl, hw'⟩; have hw'' := hw'.symm; clear hw'; subst hw'')
    go_ret
    exact ⟨rfl, ((Below.refl _ _).alloc (Nat.le_refl _) _).alloc (by simp) _⟩

set_option maxHeartbeats 400000 in
theorem full_empty (a : Addr) (cap : Nat) (h : Int) (w : World) :
    Calls Try.prog 6 #[.slice (some a) 0 cap, .int .u64 h] w fun e w' => e = .returned (.bool true) ∧ Below w.heap.size w w' := by
  have hmk := make0
  have hcl := clone_empty a cap
  go_enter Try.func6, Try.ntmps6
  go_wp2_with (first | (go_at_call 15; refine (bytes15_any _ 0 _ h _ (by omega)).mono ?_; rintro e w' ⟨rfl, hw'⟩; have hw'' := hw'.symm; clear hw'; subst hw'') | (go_at_call 13; refine (hcl _).mono ?_; rintro e w' ⟨rfl, hw'⟩; have hw'' := hw'.symm; clear hw'; subst hw''))
  go_loop [7] (fun i => i = .int .i64 0) (fun _ => 0)
  case atStart => rfl
  case round =>
    obtain rfl := hrel
    go_wp2_with (go_at_call 14; refine (zzHas_of _ h true _ (fun w0 _ => has_empty _ _ h w0)).mono ?_; rintro e w' ⟨rfl, hw'⟩; have hw'' := hw'.symm; clear hw'; subst hw'')
    go_ret
    exact ⟨rfl, (((Below.refl _ _).alloc (Nat.le_refl _) _).alloc (by simp) _).alloc (by simp; omega) _⟩

theorem ones_bit (K : Nat) (h : K < 64) : (18446744073709551615 : Nat).testBit K = true := by
  have := Nat.testBit_two_pow_sub_one 64 K
  simpa [h] using this

/-- behind the loop: all ones admits -/
theorem ones_has (w : World) (C Z : Array Value) (n : Nat) (h : Int) (hh : 0 ≤ h) (h0 : 0 < n) (hn : n ≤ 1048576) :
    Calls Try.prog 14 #[.slice (some ⟨w.heap.size + 1, 0, none⟩) n n, .int .u64 h] (((w.alloc (.cells C 24)).alloc (.cells (fill (fun _ => 18446744073709551615) n n) 24)).alloc (.cells Z 24))
      fun e w' => e = .returned (.bool true) ∧ w' = (((w.alloc (.cells C 24)).alloc (.cells (fill (fun _ => 18446744073709551615) n n) 24)).alloc (.cells Z 24)) := by
  refine zzHas_of _ h true _ (fun w0 e => ?_)
  refine has_true (w.heap.size + 1) 0 n n h (fun _ => 18446744073709551615) w0 hh h0 hn (fun j hj => ?_) (fun _ => by decide) (fun i _ => ones_bit _ (bitOf_lt _ _ _))
  subst e
  rw [Nat.zero_add, World.cell?_alloc_past (hn := by simp), World.cell?_alloc_at (hn := by simp), fill_at _ n n (Nat.le_refl _) j hj, if_pos hj]
  rfl

/-- all zeros refuses -/
theorem zeros_has (w : World) (A B : Obj) (n : Nat) (h : Int) (hh : 0 ≤ h) (h0 : 0 < n) (hn : n ≤ 1048576) :
    Calls Try.prog 14 #[.slice (some ⟨w.heap.size + 1 + 1, 0, none⟩) n n, .int .u64 h] (((w.alloc A).alloc B).alloc (.cells (madeCells #[.int .u64 0] n) 24))
      fun e w' => e = .returned (.bool false) ∧ w' = (((w.alloc A).alloc B).alloc (.cells (madeCells #[.int .u64 0] n) 24)) := by
  refine zzHas_of _ h false _ (fun w0 e => ?_)
  refine has_false (w.heap.size + 1 + 1) 0 n n h (fun _ => 0) w0 hh h0 hn (fun j hj => ?_) (fun _ => by decide) (Nat.zero_testBit _)
  subst e
  rw [Nat.zero_add, World.cell?_alloc_at (hn := by simp), made_at _ _ _ hj]
  rfl

set_option maxHeartbeats 400000 in
theorem full_some (b off n cap : Nat) (z : Nat → Int) (h : Int) (w : World) (hh : 0 ≤ h) (h0 : 0 < n) (hn : n ≤ 131072) (hb : b < w.heap.size)
    (hc : ∀ j, j < n → w.cell? ⟨b, off + j, none⟩ = some (.int .u64 (z j))) :
    Calls Try.prog 6 #[.slice (some ⟨b, off, none⟩) n cap, .int .u64 h] w fun e w' => e = .returned (.bool true) ∧ Below w.heap.size w w' := by
  have hmk := fun w => run_make_row' (P := Try.prog) 28 24 (.int .u64 0) 8 Try.underlying28 Try.info24 rfl .i64 .i64 n (by omega) (by omega) w
  have hne : ((n : Int) == 0) = false := by simp; omega
  have H : Hid (∀ j, j < n → w.cell? ⟨b, off + j, none⟩ = some (.int .u64 (z j))) := hc
  clear hc
  go_enter Try.func6, Try.ntmps6
  go_wp2_with (first | (go_at_call 15; refine (bytes15_any _ n _ h _ (by omega)).mono ?_; rw [decide_eq_true (show n ≤ 1048576 by omega)]; rintro e w' ⟨rfl, hw'⟩; have hw'' := hw'.symm; clear hw'; subst hw'') | (go_at_call 13; refine (clone_some b off n cap z _ (by omega) hb H.out).mono ?_; rintro e w' ⟨C, rfl, hw', hC, hCat⟩; have hw'' := hw'.symm; clear hw'; subst hw''))
  go_loopw [7] (fun i wr => ∃ k : Nat, k ≤ n ∧ i = .int .i64 k ∧ wr = (((w.alloc (.cells C 24)).alloc (.cells (fill (fun _ => 18446744073709551615) n k) 24)).alloc (.cells (madeCells #[.int .u64 0] n) 24))) (fun i _ => n - (intOf i).toNat)
  case atStart => exact ⟨0, Nat.zero_le _, rfl, rfl⟩
  case round =>
    obtain ⟨k, hk, rfl, rfl⟩ := hrel
    by_cases hlt : k < n
    · have hcell : (fill (fun _ => 18446744073709551615) n k)[k]? = some (.int .u64 0) := by rw [fill_at _ n k hk k hlt]; simp
      go_wp2
      go_roundw
      case rel => exact ⟨k + 1, by omega, by go_num, rfl⟩
      case measure => simp [intOf]; omega
    · have e : k = n := by omega
      subst e
      go_wp2_with fail
      refine (ones_has w C _ k h hh h0 (by omega)).mono ?_
      rintro e w' ⟨rfl, hw'⟩
      have hw'' := hw'.symm
      clear hw'
      subst hw''
      go_wp2_with fail
      refine (zeros_has w _ _ k h hh h0 (by omega)).mono ?_
      rintro e w' ⟨rfl, hw'⟩
      have hw'' := hw'.symm
      clear hw'
      subst hw''
      go_wp2_with fail
      go_ret
      exact ⟨rfl, (((Below.refl _ _).alloc (Nat.le_refl _) _).alloc (by simp) _).alloc (by simp; omega) _⟩

end Go.Proofs.Qxb6602307a
