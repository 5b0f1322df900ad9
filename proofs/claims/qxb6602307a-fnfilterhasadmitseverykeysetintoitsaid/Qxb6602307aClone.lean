/-
  THE WALK OF zzCloneWords.
-/
import Derived.Test.Qxb6602307aFilter
namespace Go.Proofs.Qxb6602307a
open Go.RowKit

theorem Try.info24 : (Try.prog.info? 24).map (fun i => (i.zero, i.size, i.bytes)) = some (some (.int .u64 0), 1, 8) := by kernel_rfl

/-- the copy behind k rounds -/
def fill (z : Nat → Int) (n : Nat) : Nat → Array Value
  | 0 => madeCells #[.int .u64 0] n
  | k + 1 => (fill z n k).setIfInBounds k (.int .u64 (z k))

theorem fill_size (z : Nat → Int) (n : Nat) : ∀ k, (fill z n k).size = n
  | 0 => size_madeCells _ _
  | k + 1 => by rw [fill, Array.size_setIfInBounds, fill_size z n k]

theorem made_at (v : Value) (n j : Nat) (h : j < n) : (madeCells #[v] n)[j]? = some v := by
  simp [madeCells, h, Nat.mod_one]

theorem fill_at (z : Nat → Int) (n : Nat) : ∀ k, k ≤ n → ∀ j, j < n → (fill z n k)[j]? = some (.int .u64 (if j < k then z j else 0))
  | 0, _, j, hj => by rw [fill, made_at _ _ _ hj]; simp
  | k + 1, hk, j, hj => by
    rw [fill, Array.getElem?_setIfInBounds, fill_size]
    by_cases e : k = j
    · subst e; simp [hj]
    · rw [if_neg e, fill_at z n k (by omega) j hj]
      by_cases h : j < k
      · rw [if_pos h, if_pos (by omega)]
      · rw [if_neg h, if_neg (by omega)]

set_option maxHeartbeats 400000 in
theorem clone_nil (w : World) :
    Calls Try.prog 13 #[.slice none 0 0] w fun e w' => e = .returned (.slice none 0 0) ∧ w' = w := by
  have hnil := fun w => Lib.run_eql_slice_nil (P := Try.prog) w 28 24 none 0 0 0 0 Try.underlying28
  go_enter Try.func13, Try.ntmps13
  go_wp2
  go_ret
  exact ⟨rfl, rfl⟩

theorem make0 (w : World) : (Instr.makeSlice 28 (.int .i64 0) (.int .i64 0)).run Try.prog w = .ok (.slice (some ⟨w.heap.size, 0, none⟩) 0 0) (w.alloc (.cells #[] 24)) := by
  have h := run_make_row' (P := Try.prog) 28 24 (.int .u64 0) 8 Try.underlying28 Try.info24 rfl .i64 .i64 0 (by omega) (by omega) w
  rw [show madeCells #[Value.int .u64 0] 0 = #[] by simp [madeCells]] at h
  exact h

set_option maxHeartbeats 400000 in
theorem clone_empty (a : Addr) (cap : Nat) (w : World) :
    Calls Try.prog 13 #[.slice (some a) 0 cap] w fun e w' => e = .returned (.slice (some ⟨w.heap.size, 0, none⟩) 0 0) ∧ w' = w.alloc (.cells #[] 24) := by
  have hmk := make0
  have hnil := fun w => Lib.run_eql_slice_nil (P := Try.prog) w 28 24 (some a) 0 cap 0 0 Try.underlying28
  go_enter Try.func13, Try.ntmps13
  go_wp2
  go_loop [4] (fun i => i = .int .i64 0) (fun _ => 0)
  case atStart => rfl
  case round =>
    obtain rfl := hrel
    go_wp2
    go_ret
    exact ⟨rfl, rfl⟩

set_option maxHeartbeats 400000 in
theorem clone_some (b off n cap : Nat) (z : Nat → Int) (w : World) (hn : n ≤ 1048576) (hb : b < w.heap.size)
    (hc : ∀ j, j < n → w.cell? ⟨b, off + j, none⟩ = some (.int .u64 (z j))) :
    Calls Try.prog 13 #[.slice (some ⟨b, off, none⟩) n cap] w fun e w' => ∃ C : Array Value, e = .returned (.slice (some ⟨w.heap.size, 0, none⟩) n n) ∧ w' = w.alloc (.cells C 24) ∧ C.size = n ∧ ∀ j, j < n → C[j]? = some (.int .u64 (z j)) := by
  have hmk := run_make_row' (P := Try.prog) 28 24 (.int .u64 0) 8 Try.underlying28 Try.info24 rfl .i64 .i64 n (by omega) (by omega) w
  have hnil := fun w => Lib.run_eql_slice_nil (P := Try.prog) w 28 24 (some ⟨b, off, none⟩) n cap 0 0 Try.underlying28
  go_enter Try.func13, Try.ntmps13
  go_wp2
  go_loopw [4] (fun i wr => ∃ k : Nat, k ≤ n ∧ i = .int .i64 k ∧ wr = w.alloc (.cells (fill z n k) 24)) (fun i _ => n - (intOf i).toNat)
  case atStart => exact ⟨0, Nat.zero_le _, rfl, rfl⟩
  case round =>
    obtain ⟨k, hk, rfl, rfl⟩ := hrel
    by_cases hlt : k < n
    · have hck := hc k hlt
      have hcell : (fill z n k)[k]? = some (.int .u64 0) := by rw [fill_at z n k hk k hlt]; simp
      go_wp2
      go_roundw
      case rel => exact ⟨k + 1, by omega, by go_num, rfl⟩
      case measure => simp [intOf]; omega
    · go_wp2
      go_ret
      exact ⟨fill z n k, rfl, rfl, fill_size z n k, fun j hj => by rw [fill_at z n k hk j hj, if_pos (by omega)]⟩

end Go.Proofs.Qxb6602307a
