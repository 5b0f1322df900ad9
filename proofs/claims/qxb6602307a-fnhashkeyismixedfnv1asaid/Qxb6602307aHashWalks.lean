/-
  THE WALKS OF THE HASH: hashKey, ZZHashKey.
-/
import Derived.Test.Qxb6602307aRows
import Derived.Test.Qxb6602307aHash
import Derived.WalkKit
import Derived.WalkSpells
import Derived.WalkLawsBesides
namespace Go.Proofs.Qxb6602307a
open Go.RowKit

theorem wrap_byte (c : UInt8) : IntKind.u64.wrap (c.toNat : Int) = (c.toNat : Int) := by
  rw [IntKind.wrap_u64]; have := c.toNat_lt; omega

theorem step_int (h : Nat) (c : UInt8) (hh : h < 18446744073709551616) :
    IntKind.u64.wrap (bits .xor .u64 (h : Int) (IntKind.u64.wrap (c.toNat : Int)) * 1099511628211) = ((Hash.step h c.toNat : Nat) : Int) := by
  rw [wrap_byte, bits_xor_u64_nat h c.toNat hh (Hash.byte_lt c), IntKind.wrap_u64]
  unfold Hash.step
  omega

theorem sh_int (X : Nat) (hX : X < 18446744073709551616) : bits .xor .u64 (X : Int) ((X : Int) / 8589934592) = ((Hash.sh X : Nat) : Int) :=
  xorShift_u64 X 8589934592 hX

theorem mul1_int (X : Nat) : IntKind.u64.wrap ((X : Int) * 18397679294719823053) = ((Hash.mul X 18397679294719823053 : Nat) : Int) := by
  rw [IntKind.wrap_u64]; unfold Hash.mul; omega

theorem mul2_int (X : Nat) : IntKind.u64.wrap ((X : Int) * 14181476777654086739) = ((Hash.mul X 14181476777654086739 : Nat) : Int) := by
  rw [IntKind.wrap_u64]; unfold Hash.mul; omega

/-- the finalizer as the walk spells it -/
theorem mix_int (X : Nat) (hX : X < 18446744073709551616) :
    bits .xor .u64
      (IntKind.u64.wrap (bits .xor .u64 (IntKind.u64.wrap (bits .xor .u64 (X : Int) ((X : Int) / 8589934592) * 18397679294719823053))
        (IntKind.u64.wrap (bits .xor .u64 (X : Int) ((X : Int) / 8589934592) * 18397679294719823053) / 8589934592) * 14181476777654086739))
      (IntKind.u64.wrap (bits .xor .u64 (IntKind.u64.wrap (bits .xor .u64 (X : Int) ((X : Int) / 8589934592) * 18397679294719823053))
        (IntKind.u64.wrap (bits .xor .u64 (X : Int) ((X : Int) / 8589934592) * 18397679294719823053) / 8589934592) * 14181476777654086739) / 8589934592)
      = ((Hash.mix X : Nat) : Int) := by
  rw [sh_int X hX, mul1_int, sh_int _ (Hash.mul_lt _ _), mul2_int, sh_int _ (Hash.mul_lt _ _)]
  rfl

theorem ret_u64 {a b : Int} (h : a = b) : Ending.returned (.int .u64 a) = .returned (.int .u64 b) := by rw [h]
theorem val_u64 {a b : Int} (h : a = b) : Value.int .u64 a = .int .u64 b := by rw [h]

theorem take_snoc (s : ByteArray) (k : Nat) (h : k < s.size) : s.data.toList.take (k + 1) = s.data.toList.take k ++ [s[k]] := by
  rw [List.take_succ_eq_append_getElem (by simpa using h)]; rfl

set_option maxHeartbeats 400000 in
theorem hashKey_any (s : ByteArray) (w : World) (hs : s.size ≤ 9223372036854775807) :
    Calls Try.prog 19 #[.string s] w fun e w' => e = .returned (.int .u64 ((Hash.hk s.data.toList : Nat) : Int)) ∧ w' = w := by
  go_enter Try.func19, Try.ntmps19
  go_wp2
  go_loop [3, 7] (fun h i => ∃ k : Nat, k ≤ s.size ∧ i = .int .i64 k ∧ h = .int .u64 ((Hash.fnv (s.data.toList.take k) : Nat) : Int)) (fun _ i => s.size - (intOf i).toNat)
  case atStart => exact ⟨0, Nat.zero_le _, rfl, rfl⟩
  case round =>
    obtain ⟨k, hk, rfl, rfl⟩ := hrel
    by_cases hlt : k < s.size
    · go_wp2
      go_round
      case rel => exact ⟨k + 1, by omega, by go_num, val_u64 (by rw [step_int _ _ (Hash.fnv_lt _), take_snoc s k hlt, Hash.fnv_snoc])⟩
      case measure => simp [intOf]; omega
    · go_wp2
      go_ret
      exact ⟨ret_u64 (by rw [mix_int _ (Hash.fnv_lt _), List.take_of_length_le (by simp; omega)]; rfl), rfl⟩

set_option maxHeartbeats 400000 in
theorem zzHashKey_any (s : ByteArray) (w : World) (hs : s.size ≤ 9223372036854775807) :
    Calls Try.prog 10 #[.string s] w fun e w' => e = .returned (.int .u64 ((Hash.hk s.data.toList : Nat) : Int)) ∧ w' = w := by
  go_enter Try.func10, Try.ntmps10
  go_wp2_with (go_at_call 19; refine (hashKey_any s _ hs).mono ?_; rintro e w' ⟨rfl, rfl⟩)
  go_ret
  exact ⟨rfl, rfl⟩

set_option maxHeartbeats 400000 in
theorem bytes11_any (s : ByteArray) (i c : Int) (w : World) (hs : s.size ≤ 9223372036854775807) :
    Calls Try.prog 11 #[.string s, .int .i64 i, .int .u8 c] w fun e w' => e = .returned (.bool (decide (s.size ≤ 1048576))) ∧ w' = w := by
  by_cases h : s.size ≤ 1048576
  · have h1 : ¬ (1048576 : Int) < (s.size : Int) := by omega
    rw [decide_eq_true h]
    go_enter Try.func11, Try.ntmps11
    go_wp2
    go_ret
    exact ⟨rfl, rfl⟩
  · have h1 : (1048576 : Int) < (s.size : Int) := by omega
    rw [decide_eq_false h]
    go_enter Try.func11, Try.ntmps11
    go_wp2
    go_ret
    exact ⟨rfl, rfl⟩

end Go.Proofs.Qxb6602307a
