/-
  THE WALK OF FnHashKeyIsMixedFNV1a: zzInv64, zzUnmix, the law itself.
-/
import Derived.Test.Qxb6602307aHashWalks
import Derived.Lib.LazyBuf
import Derived.Laws.IdiomStrings
import Derived.OpenShut
import Derived.Deep.OwnRows
import Derived.Deep.RegionWith
namespace Go.Proofs.Qxb6602307a
open Go.RowKit

theorem add0b (b j : Nat) : (⟨b, 0, none⟩ : Addr).add j = ⟨b, j, none⟩ := by
  by_cases h : j = 0 <;> simp [Addr.add, h]

theorem ret_bool2 {a b : Bool} (h : a = b) : Ending.returned (.bool a) = .returned (.bool b) := by rw [h]

/-- Newton's rounds as the walk spells them -/
def invI (c : Int) : Nat → Int
  | 0 => c
  | k + 1 => IntKind.u64.wrap (invI c k * IntKind.u64.wrap (2 - IntKind.u64.wrap (c * invI c k)))

theorem invI_1 : invI 18397679294719823053 5 = 5725274745694666757 := by decide +kernel
theorem invI_2 : invI 14181476777654086739 5 = 11291846944257947611 := by decide +kernel

set_option maxHeartbeats 400000 in
theorem inv_any (c : Int) (w : World) :
    Calls Try.prog 18 #[.int .u64 c] w fun e w' => e = .returned (.int .u64 (invI c 5)) ∧ w' = w := by
  go_enter Try.func18, Try.ntmps18
  go_wp2
  go_loop [3, 4] (fun x i => ∃ k : Nat, k ≤ 5 ∧ i = .int .i64 k ∧ x = .int .u64 (invI c k)) (fun _ i => 5 - (intOf i).toNat)
  case atStart => exact ⟨0, Nat.zero_le _, rfl, rfl⟩
  case round =>
    obtain ⟨k, hk, rfl, rfl⟩ := hrel
    by_cases hlt : k < 5
    · go_wp2
      go_round
      case rel => exact ⟨k + 1, by omega, by go_num, rfl⟩
      case measure => simp [intOf]; omega
    · go_wp2
      go_ret
      have : k = 5 := by omega
      subst this
      exact ⟨rfl, rfl⟩

theorem umul1_int (X : Nat) : IntKind.u64.wrap ((X : Int) * 5725274745694666757) = ((Hash.mul X 5725274745694666757 : Nat) : Int) := by
  rw [IntKind.wrap_u64]; unfold Hash.mul; omega

theorem umul2_int (X : Nat) : IntKind.u64.wrap ((X : Int) * 11291846944257947611) = ((Hash.mul X 11291846944257947611 : Nat) : Int) := by
  rw [IntKind.wrap_u64]; unfold Hash.mul; omega

/-- the inverse of the finalizer as the walk spells it -/
theorem unmix_int (X : Nat) (hX : X < 18446744073709551616) :
    bits .xor .u64
      (IntKind.u64.wrap (bits .xor .u64 (IntKind.u64.wrap (bits .xor .u64 (X : Int) ((X : Int) / 8589934592) * invI 14181476777654086739 5))
        (IntKind.u64.wrap (bits .xor .u64 (X : Int) ((X : Int) / 8589934592) * invI 14181476777654086739 5) / 8589934592) * invI 18397679294719823053 5))
      (IntKind.u64.wrap (bits .xor .u64 (IntKind.u64.wrap (bits .xor .u64 (X : Int) ((X : Int) / 8589934592) * invI 14181476777654086739 5))
        (IntKind.u64.wrap (bits .xor .u64 (X : Int) ((X : Int) / 8589934592) * invI 14181476777654086739 5) / 8589934592) * invI 18397679294719823053 5) / 8589934592)
      = ((Hash.unmix X : Nat) : Int) := by
  rw [invI_1, invI_2, sh_int X hX, umul2_int, sh_int _ (Hash.mul_lt _ _), umul1_int, sh_int _ (Hash.mul_lt _ _)]
  rfl

set_option maxHeartbeats 400000 in
theorem unmix_any (x : Nat) (hx : x < 18446744073709551616) (w : World) :
    Calls Try.prog 9 #[.int .u64 (x : Int)] w fun e w' => e = .returned (.int .u64 ((Hash.unmix x : Nat) : Int)) ∧ w' = w := by
  have H : Hid (x < 18446744073709551616) := hx
  clear hx
  go_enter Try.func9, Try.ntmps9
  go_wp2_with (go_at_call 18; refine (inv_any _ _).mono ?_; rintro e w' ⟨rfl, hw'⟩; have hw'' := hw'.symm; clear hw'; subst hw'')
  go_ret
  exact ⟨ret_u64 (unmix_int x H.out), rfl⟩

theorem unmix_hk (l : List UInt8) (w : World) :
    Calls Try.prog 9 #[.int .u64 ((Hash.hk l : Nat) : Int)] w fun e w' => e = .returned (.int .u64 ((Hash.fnv l : Nat) : Int)) ∧ w' = w := by
  have h := unmix_any (Hash.hk l) (Hash.hk_lt l) w
  rw [show Hash.unmix (Hash.hk l) = Hash.fnv l from Hash.unmix_mix (Hash.fnv_lt l)] at h
  exact h

theorem hash_empty (w : World) :
    Calls Try.prog 10 #[.string ⟨#[]⟩] w fun e w' => e = .returned (.int .u64 ((Hash.hk [] : Nat) : Int)) ∧ w' = w :=
  zzHashKey_any ⟨#[]⟩ w (by decide)

theorem unmix_empty (w : World) :
    Calls Try.prog 9 #[.int .u64 ((Hash.hk [] : Nat) : Int)] w fun e w' => e = .returned (.int .u64 14695981039346656037) ∧ w' = w :=
  unmix_hk [] w

set_option maxHeartbeats 400000 in
theorem bytes8_any (s : ByteArray) (c : Int) (w : World) (hs : s.size ≤ 9223372036854775807) :
    Calls Try.prog 8 #[.string s, .int .u8 c] w fun e w' => e = .returned (.bool (decide (s.size ≤ 1048576))) ∧ w' = w := by
  by_cases h : s.size ≤ 1048576
  · have h1 : ¬ (1048576 : Int) < (s.size : Int) := by omega
    rw [decide_eq_true h]
    go_enter Try.func8, Try.ntmps8
    go_wp2
    go_ret
    exact ⟨rfl, rfl⟩
  · have h1 : (1048576 : Int) < (s.size : Int) := by omega
    rw [decide_eq_false h]
    go_enter Try.func8, Try.ntmps8
    go_wp2
    go_ret
    exact ⟨rfl, rfl⟩

set_option maxHeartbeats 400000 in
theorem mixed_long (s : ByteArray) (c : Int) (w : World) (hs : s.size ≤ 9223372036854775807) (h : ¬ s.size ≤ 1048576) :
    Calls Try.prog 3 #[.string s, .int .u8 c] w fun e w' => e = .returned (.bool true) ∧ Below w.heap.size w w' := by
  go_enter Try.func3, Try.ntmps3
  go_wp2_with (go_at_call 8; refine (bytes8_any s c _ hs).mono ?_; rw [decide_eq_false h]; rintro e w' ⟨rfl, rfl⟩)
  go_ret
  exact ⟨rfl, Below.refl _ _⟩

set_option maxHeartbeats 400000 in
theorem mixed_short (s r : ByteArray) (c : UInt8) (w W1 W2 : World) (h : s.size ≤ 1048576) (hr : r.size ≤ 9223372036854775807)
    (hmk : (Instr.makeSlice 23 (.int .i64 ((s.size : Int) + 1)) (.int .i64 ((s.size : Int) + 1))).run Try.prog w = .ok (.slice (some ⟨w.heap.size, 0, none⟩) (s.size + 1) (s.size + 1)) W1)
    (hcp : ∀ ty, (Builtin.copy_ #[23, 9] ty #[.slice (some ⟨w.heap.size, 0, none⟩) (s.size + 1) (s.size + 1), .string s]).run Try.prog W1 = .ok (goInt s.size) W2)
    (c0 : Value) (hc0 : W2.cell? ⟨w.heap.size, s.size, none⟩ = some c0) (hz0 : W2.frozen? ⟨w.heap.size, s.size, none⟩ = false)
    (hback : (convert 23 9 (.slice (some ⟨w.heap.size, 0, none⟩) (s.size + 1) (s.size + 1))).run Try.prog (W2.setCell ⟨w.heap.size, s.size, none⟩ (.int .u8 (c.toNat : Int))) = .ok (.string r) (W2.setCell ⟨w.heap.size, s.size, none⟩ (.int .u8 (c.toNat : Int))))
    (hb : Below w.heap.size w W2)
    (hfin : Hid (r.data.toList = s.data.toList ++ [c])) :
    Calls Try.prog 3 #[.string s, .int .u8 (c.toNat : Int)] w fun e w' => e = .returned (.bool true) ∧ Below w.heap.size w w' := by
  have h1 : ¬ (1048576 : Int) < (s.size : Int) := by omega
  go_enter Try.func3, Try.ntmps3
  go_wp2_with (first
    | (go_at_call 8; refine (bytes8_any s (c.toNat : Int) _ (by omega)).mono ?_; rw [decide_eq_true h]; rintro e w' ⟨rfl, hw'⟩; have hw'' := hw'.symm; clear hw'; subst hw'')
    | (go_at_call_of 10 (Value.string s); refine (zzHashKey_any s _ (by omega)).mono ?_; rintro e w' ⟨rfl, hw'⟩; have hw'' := hw'.symm; clear hw'; subst hw'')
    | (go_at_call_of 10 (Value.string r); refine (zzHashKey_any r _ hr).mono ?_; rintro e w' ⟨rfl, hw'⟩; have hw'' := hw'.symm; clear hw'; subst hw'')
    | (go_at_call_of 10 (Value.string ⟨#[]⟩); refine (hash_empty _).mono ?_; rintro e w' ⟨rfl, hw'⟩; have hw'' := hw'.symm; clear hw'; subst hw'')
    | (go_at_call_of 9 (Hash.hk s.data.toList); refine (unmix_hk _ _).mono ?_; rintro e w' ⟨rfl, hw'⟩; have hw'' := hw'.symm; clear hw'; subst hw'')
    | (go_at_call_of 9 (Hash.hk r.data.toList); refine (unmix_hk _ _).mono ?_; rintro e w' ⟨rfl, hw'⟩; have hw'' := hw'.symm; clear hw'; subst hw'')
    | (go_at_call 9; refine (unmix_empty _).mono ?_; rintro e w' ⟨rfl, hw'⟩; have hw'' := hw'.symm; clear hw'; subst hw''))
  go_ret
  exact ⟨ret_bool2 (by rw [step_int _ _ (Hash.fnv_lt _), hfin.out, Hash.fnv_snoc]; exact beq_self_eq_true _), hb.setCell (Nat.le_refl _) _⟩

theorem Try.info5 : (Try.prog.info? 5).map (fun i => (i.zero, i.size, i.bytes)) = some (some (.int .u8 0), 1, 1) := by kernel_rfl

theorem size5 (w : World) : (Go.sizeOf 5).run Try.prog w = .ok 1 w := by kernel_rfl

theorem below_setCells {B g : Nat} {w0 : World} (hB : B ≤ g) : ∀ (vs : List Value) (o : Nat) (w : World), Below B w0 w → Below B w0 (w.setCells g o vs)
  | [], _, _, hb => hb
  | v :: r, o, _, hb => below_setCells hB r (o + 1) _ (hb.setCell hB v)

/-- the law's walk, whatever the arguments -/
theorem mixed_any (s : ByteArray) (c : Int) (w : World) (hs : s.size ≤ maxLen) (hc : (Lit.int .u8 c).wf = true) :
    Calls Try.prog 3 #[.string s, .int .u8 c] w fun e w' => e = .returned (.bool true) ∧ Below w.heap.size w w' := by
  unfold maxLen at hs
  by_cases h : s.size ≤ 1048576
  · obtain ⟨hc0, hc1⟩ := bounds_u8 hc
    obtain ⟨m, rfl⟩ := Int.eq_ofNat_of_zero_le hc0
    have hm : m = (UInt8.ofNat m).toNat := by simp; omega
    generalize UInt8.ofNat m = d at hm
    subst hm
    have hmk := run_make_row' (P := Try.prog) 23 5 (.int .u8 0) 1 Try.underlying23 Try.info5 rfl .i64 .i64 (s.size + 1) (by omega) (by omega) w
    rw [show ((s.size + 1 : Nat) : Int) = (s.size : Int) + 1 by omega] at hmk
    have hcell : ∀ j, j < s.size + 1 → (w.alloc (.cells (madeCells #[.int .u8 0] (s.size + 1)) 5)).cell? ⟨w.heap.size, j, none⟩ = some (.int .u8 0) := fun j hj => by
      rw [World.cell?_alloc_at (hn := rfl)]; simp [madeCells, hj, Nat.mod_one]
    have hfro : ∀ j, (w.alloc (.cells (madeCells #[.int .u8 0] (s.size + 1)) 5)).frozen? ⟨w.heap.size, j, none⟩ = false := fun j => by
      rw [World.frozen?_alloc_at (hn := rfl)]
    have hb1 : Below w.heap.size w (w.alloc (.cells (madeCells #[.int .u8 0] (s.size + 1)) 5)) := (Below.refl _ _).alloc (Nat.le_refl _) _
    generalize (w.alloc (.cells (madeCells #[.int .u8 0] (s.size + 1)) 5)) = W1 at hmk hcell hfro hb1
    have hcp := fun ty => run_copy_string (P := Try.prog) W1 23 9 ty 5 w.heap.size 0 (s.size + 1) (s.size + 1) s Try.underlying23 size5 (by omega)
      (fun j hj => by rw [Nat.zero_add, hcell j (by omega)]; rfl) (fun j _ => by rw [Nat.zero_add]; exact hfro j)
    have hl : (s.data.toList.map fun x => Value.int .u8 (x.toNat : Int)).length = s.size := by simp
    have hin := World.cell?_setCells_in w.heap.size (s.data.toList.map fun x => Value.int .u8 (x.toNat : Int)) 0 W1 (fun j hj => by
      rw [hl] at hj; rw [Nat.zero_add, hcell j (by omega)]; rfl)
    have hlast := World.cell?_setCells_out w.heap.size (s.data.toList.map fun x => Value.int .u8 (x.toNat : Int)) 0 W1 ⟨w.heap.size, s.size, none⟩ (fun _ _ => Or.inr (by rw [hl]; simp))
    have hfz := World.frozen?_setCells w.heap.size (s.data.toList.map fun x => Value.int .u8 (x.toNat : Int)) 0 W1 ⟨w.heap.size, s.size, none⟩
    have hb2 := below_setCells (Nat.le_refl _) (s.data.toList.map fun x => Value.int .u8 (x.toNat : Int)) 0 W1 hb1
    rw [hcell _ (by omega)] at hlast
    rw [hfro] at hfz
    generalize W1.setCells w.heap.size 0 (s.data.toList.map fun x => Value.int .u8 (x.toNat : Int)) = W2 at hcp hin hlast hfz hb2
    have hlen : (s.data.toList ++ [d]).length = s.size + 1 := by simp
    refine mixed_short s ⟨(s.data.toList ++ [d]).toArray⟩ d w W1 W2 h ?_ hmk hcp _ hlast hfz ?_ hb2 (by simp [Hid])
    · show (s.data.toList ++ [d]).toArray.size ≤ _
      rw [List.size_toArray, hlen]; omega
    · have hbk := run_convert_bytes_back (P := Try.prog) (W2.setCell ⟨w.heap.size, s.size, none⟩ (.int .u8 (d.toNat : Int))) 23 9 5 ⟨w.heap.size, 0, none⟩ (s.size + 1) (s.data.toList ++ [d]) Try.underlying23 Try.underlying5 Try.underlying9 ?_
      · rw [hlen] at hbk; exact hbk
      · intro j hj
        rw [hlen] at hj
        rw [add0b]
        by_cases hjn : s.size = j
        · subst hjn
          rw [World.cell?_setCell_same _ _ _ hlast]
          simp
        · have hj' : j < s.size := by omega
          have := hin j (by rw [hl]; exact hj')
          rw [Nat.zero_add] at this
          rw [World.cell?_setCell_other _ _ _ _ (by simp), this]
          simp [hj']
  · exact mixed_long s c w (by omega) h

end Go.Proofs.Qxb6602307a
