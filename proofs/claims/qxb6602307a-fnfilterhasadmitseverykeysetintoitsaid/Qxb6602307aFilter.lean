/-
  THE WALKS OF THE FILTER: probe, ZZProbe, (filter).has, ZZFilterHas.
-/
import Derived.Test.Qxb6602307aRows
import Derived.WalkKit
import Derived.WalkSpells
import Derived.WalkLawsBesides
import Derived.OpenShut
import Derived.Deep.OwnRows
namespace Go.Proofs.Qxb6602307a
open Go.RowKit

/-! ### numbers -/

theorem bits_and_nat (a b : Nat) (ha : a < 18446744073709551616) (hb : b < 18446744073709551616) :
    bits .and .u64 (a : Int) (b : Int) = ((a &&& b : Nat) : Int) := by
  have hx : a &&& b < 2 ^ 64 := Nat.and_lt_two_pow _ (by omega)
  have h1 : (BitVec.ofInt 64 (a : Int)).toNat = a := by
    rw [BitVec.ofInt_natCast, BitVec.toNat_ofNat]; exact Nat.mod_eq_of_lt (by omega)
  have h2 : (BitVec.ofInt 64 (b : Int)).toNat = b := by
    rw [BitVec.ofInt_natCast, BitVec.toNat_ofNat]; exact Nat.mod_eq_of_lt (by omega)
  show IntKind.u64.wrap ((BitVec.ofInt 64 (a : Int) &&& BitVec.ofInt 64 (b : Int)).toNat : Int) = _
  rw [BitVec.toNat_and, h1, h2, IntKind.wrap_u64]
  omega

theorem bits_or_nat (a b : Nat) (ha : a < 18446744073709551616) (hb : b < 18446744073709551616) :
    bits .or .u64 (a : Int) (b : Int) = ((a ||| b : Nat) : Int) := by
  have hx : a ||| b < 2 ^ 64 := Nat.or_lt_two_pow (by omega) (by omega)
  have h1 : (BitVec.ofInt 64 (a : Int)).toNat = a := by
    rw [BitVec.ofInt_natCast, BitVec.toNat_ofNat]; exact Nat.mod_eq_of_lt (by omega)
  have h2 : (BitVec.ofInt 64 (b : Int)).toNat = b := by
    rw [BitVec.ofInt_natCast, BitVec.toNat_ofNat]; exact Nat.mod_eq_of_lt (by omega)
  show IntKind.u64.wrap ((BitVec.ofInt 64 (a : Int) ||| BitVec.ofInt 64 (b : Int)).toNat : Int) = _
  rw [BitVec.toNat_or, h1, h2, IntKind.wrap_u64]
  omega

theorem pow_lt64 {K : Nat} (hK : K < 64) : 2 ^ K < 18446744073709551616 := Nat.pow_lt_pow_right (by omega) (m := K) (n := 64) hK

/-- the bit test of 'has', a bit that is set -/
theorem test_set (z K : Nat) (hz : z < 18446744073709551616) (hK : K < 64) (h : z.testBit K = true) :
    (bits .and .u64 (z : Int) ((2 ^ K : Nat) : Int) == 0) = false := by
  rw [bits_and_nat z _ hz (pow_lt64 hK)]
  have e : z &&& 2 ^ K ≠ 0 := fun e => by
    have t : (z &&& 2 ^ K).testBit K = true := by rw [Nat.testBit_and, h, Nat.testBit_two_pow_self]; rfl
    rw [e, Nat.zero_testBit] at t
    exact Bool.noConfusion t
  rw [beq_eq_false_iff_ne]
  omega

/-- the bit test of 'has', a bit that is not set -/
theorem test_clear (z K : Nat) (hz : z < 18446744073709551616) (hK : K < 64) (h : z.testBit K = false) :
    (bits .and .u64 (z : Int) ((2 ^ K : Nat) : Int) == 0) = true := by
  rw [bits_and_nat z _ hz (pow_lt64 hK)]
  have e : z &&& 2 ^ K = 0 := by
    apply Nat.eq_of_testBit_eq
    intro i
    rw [Nat.testBit_and, Nat.testBit_two_pow, Nat.zero_testBit]
    by_cases hi : K = i
    · rw [← hi, h]; rfl
    · simp [hi]
  rw [e]; rfl

/-- '1 << K' as the walk spells it -/
theorem shift_one (K : Nat) (hK : K < 64) : IntKind.u64.wrap (2 ^ K) = ((2 ^ K : Nat) : Int) := by
  have hp := pow_lt64 hK
  have e : (2 : Int) ^ K = ((2 ^ K : Nat) : Int) := (Int.natCast_pow 2 K).symm
  rw [IntKind.wrap_u64, e]
  generalize 2 ^ K = M at hp
  rw [Int.emod_eq_of_lt (by omega) (by omega)]

/-! ### probe -/

/-- the probe as the walk spells it -/
def probeI (h i : Int) : Int := IntKind.u64.wrap (bits .and .u64 h 4294967295 + IntKind.u64.wrap (i * (h / 4294967296)))

theorem probeI_pos (h i : Int) : 0 ≤ probeI h i ∧ probeI h i < 18446744073709551616 := by
  unfold probeI; rw [IntKind.wrap_u64]; omega

def probeN (h i : Int) : Nat := (probeI h i).toNat

theorem probeN_int (h i : Int) : ((probeN h i : Nat) : Int) = probeI h i := Int.toNat_of_nonneg (probeI_pos h i).1

set_option maxHeartbeats 400000 in
theorem probe_any (h i : Int) (w : World) (_hh : 0 ≤ h) :
    Calls Try.prog 22 #[.int .u64 h, .int .u64 i] w fun e w' => e = .returned (.int .u64 ((probeN h i : Nat) : Int)) ∧ w' = w := by
  rw [probeN_int]
  go_enter Try.func22, Try.ntmps22
  go_wp2
  go_ret
  exact ⟨rfl, rfl⟩

/-- the word that probe i of hash h lies in, in a filter of n words; the bit within the word -/
def wordOf (h : Int) (i n : Nat) : Nat := probeN h i % (n * 64) / 64
def bitOf (h : Int) (i n : Nat) : Nat := probeN h i % (n * 64) % 64

theorem wordOf_lt (h : Int) (i n : Nat) (h0 : 0 < n) : wordOf h i n < n := by
  unfold wordOf
  have : probeN h i % (n * 64) < n * 64 := Nat.mod_lt _ (by omega)
  omega
theorem bitOf_lt (h : Int) (i n : Nat) : bitOf h i n < 64 := Nat.mod_lt _ (by omega)

/-- the places, as the walk comes to them -/
theorem places (h : Int) (i n : Nat) (h0 : 0 < n) (hn : n ≤ 1048576) :
    ∃ B : Nat, ((probeN h i : Nat) : Int) % ((n : Int) * 64) = (B : Int) ∧ IntKind.u64.wrap ((B : Int) / 64) = ((wordOf h i n : Nat) : Int) ∧ (B : Int) % 64 = ((bitOf h i n : Nat) : Int) := by
  have hlt : probeN h i % (n * 64) < n * 64 := Nat.mod_lt _ (by omega)
  refine ⟨probeN h i % (n * 64), ?_, ?_, ?_⟩
  · rw [Int.natCast_emod, Int.natCast_mul]; rfl
  · rw [IntKind.wrap_u64]
    unfold wordOf; omega
  · unfold bitOf; omega

set_option maxHeartbeats 400000 in
theorem has_true (b off n cap : Nat) (h : Int) (z : Nat → Nat) (w : World) (hh : 0 ≤ h) (h0 : 0 < n) (hn : n ≤ 1048576)
    (hc : ∀ j, j < n → w.cell? ⟨b, off + j, none⟩ = some (.int .u64 ((z j : Nat) : Int)))
    (hz : ∀ j, z j < 18446744073709551616) (hset : ∀ i, i < 7 → (z (wordOf h i n)).testBit (bitOf h i n) = true) :
    Calls Try.prog 20 #[.slice (some ⟨b, off, none⟩) n cap, .int .u64 h] w fun e w' => e = .returned (.bool true) ∧ w' = w := by
  have hne : ((n : Int) == 0) = false := by simp; omega
  go_enter Try.func20, Try.ntmps20
  go_wp2
  go_loop [15] (fun i => ∃ k : Nat, k ≤ 7 ∧ i = .int .u64 k) (fun i => 7 - (intOf i).toNat)
  case atStart => exact ⟨0, Nat.zero_le _, rfl⟩
  case round =>
    obtain ⟨k, hk, rfl⟩ := hrel
    by_cases hlt : k < 7
    · obtain ⟨B, eB, eJ, eK⟩ := places h k n h0 hn
      have hJ := wordOf_lt h k n h0
      have hK := bitOf_lt h k n
      have hcJ := hc _ hJ
      have ht := test_set _ _ (hz (wordOf h k n)) hK (hset k hlt)
      have hs := shift_one _ hK
      clear hc hz hset
      generalize z (wordOf h k n) = Z at hcJ ht
      generalize wordOf h k n = J at eJ hJ hcJ
      generalize bitOf h k n = K at eK hK ht hs
      generalize 2 ^ K = M at ht hs
      have hJ' : (J : Int) < (n : Int) := by omega
      go_wp2_with (go_at_call 22; refine (probe_any h _ _ hh).mono ?_; rintro e w' ⟨rfl, hw'⟩; have hw'' := hw'.symm; clear hw'; subst hw'')
      go_round
      case rel => exact ⟨k + 1, by omega, by go_num⟩
      case measure => simp [intOf]; omega
    · go_wp2
      go_ret
      exact ⟨rfl, rfl⟩

set_option maxHeartbeats 400000 in
theorem has_false (b off n cap : Nat) (h : Int) (z : Nat → Nat) (w : World) (hh : 0 ≤ h) (h0 : 0 < n) (hn : n ≤ 1048576)
    (hc : ∀ j, j < n → w.cell? ⟨b, off + j, none⟩ = some (.int .u64 ((z j : Nat) : Int)))
    (hz : ∀ j, z j < 18446744073709551616) (hset : (z (wordOf h 0 n)).testBit (bitOf h 0 n) = false) :
    Calls Try.prog 20 #[.slice (some ⟨b, off, none⟩) n cap, .int .u64 h] w fun e w' => e = .returned (.bool false) ∧ w' = w := by
  have hne : ((n : Int) == 0) = false := by simp; omega
  go_enter Try.func20, Try.ntmps20
  go_wp2
  go_loop [15] (fun i => i = .int .u64 0) (fun _ => 0)
  case atStart => rfl
  case round =>
    obtain rfl := hrel
    obtain ⟨B, eB0, eJ, eK⟩ := places h 0 n h0 hn
    have eB : ((probeN h 0 : Nat) : Int) % ((n : Int) * 64) = (B : Int) := eB0
    clear eB0
    have hJ := wordOf_lt h 0 n h0
    have hK := bitOf_lt h 0 n
    have hcJ := hc _ hJ
    have ht := test_clear _ _ (hz (wordOf h 0 n)) hK hset
    have hs := shift_one _ hK
    clear hc hz hset
    generalize z (wordOf h 0 n) = Z at hcJ ht
    generalize wordOf h 0 n = J at eJ hJ hcJ
    generalize bitOf h 0 n = K at eK hK ht hs
    generalize 2 ^ K = M at ht hs
    have hJ' : (J : Int) < (n : Int) := by omega
    go_wp2_with (go_at_call 22; refine (probe_any h _ _ hh).mono ?_; rintro e w' ⟨rfl, hw'⟩; have hw'' := hw'.symm; clear hw'; subst hw'')
    go_ret
    exact ⟨rfl, rfl⟩

set_option maxHeartbeats 400000 in
theorem has_empty (a : Option Addr) (cap : Nat) (h : Int) (w : World) :
    Calls Try.prog 20 #[.slice a 0 cap, .int .u64 h] w fun e w' => e = .returned (.bool true) ∧ w' = w := by
  go_enter Try.func20, Try.ntmps20
  go_wp2
  go_ret
  exact ⟨rfl, rfl⟩

/-- ZZFilterHas hands on. -/
theorem zzHas_of (v : Value) (h : Int) (r : Bool) (w : World)
    (H : ∀ w0, w0 = w → Calls Try.prog 20 #[v, .int .u64 h] w0 fun e w' => e = .returned (.bool r) ∧ w' = w0) :
    Calls Try.prog 14 #[v, .int .u64 h] w fun e w' => e = .returned (.bool r) ∧ w' = w := by
  go_enter Try.func14, Try.ntmps14
  go_wp2_with (go_at_call 20; refine (H _ rfl).mono ?_; rintro e w' ⟨rfl, rfl⟩)
  go_ret
  exact ⟨rfl, rfl⟩

end Go.Proofs.Qxb6602307a
