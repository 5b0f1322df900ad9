/-
  THE WALKS OF zzSetKey AND OF FnFilterHasAdmitsEveryKeySetIntoIt.
-/
import Derived.Test.Qxb6602307aClone
namespace Go.Proofs.Qxb6602307a
open Go.RowKit

/-- block b holds the words z 0 .. z (n-1), and they may be written -/
structure Words (w : World) (b n : Nat) (z : Nat → Nat) : Prop where
  cell : ∀ j, j < n → w.cell? ⟨b, j, none⟩ = some (.int .u64 ((z j : Nat) : Int))
  free : ∀ j, j < n → w.frozen? ⟨b, j, none⟩ = false
  fits : ∀ j, z j < 18446744073709551616

/-- a slice of n words of the call's own: its block lies in [L, H) -/
def Own (L H : Nat) (w : World) (a : Option Addr) (n : Nat) (z : Nat → Nat) : Prop :=
  0 < n → ∃ b, L ≤ b ∧ b < H ∧ a = some ⟨b, 0, none⟩ ∧ Words w b n z

/-- outside the blocks [L, H) nothing has turned -/
structure Keeps (L H : Nat) (w w' : World) : Prop where
  os : w'.os = w.os
  tape : w'.tape = w.tape
  output : w'.output = w.output
  size : w'.heap.size = w.heap.size
  block : ∀ k, (k < L ∨ H ≤ k) → w'.heap[k]? = w.heap[k]?

theorem Keeps.refl (L H : Nat) (w : World) : Keeps L H w w := ⟨rfl, rfl, rfl, rfl, fun _ _ => rfl⟩
theorem Keeps.trans {L H : Nat} {a b c : World} (h : Keeps L H a b) (k : Keeps L H b c) : Keeps L H a c :=
  ⟨k.os.trans h.os, k.tape.trans h.tape, k.output.trans h.output, k.size.trans h.size, fun i hi => (k.block i hi).trans (h.block i hi)⟩
theorem Keeps.setCell {L H : Nat} {a w : World} (h : Keeps L H a w) {b o : Nat} (hL : L ≤ b) (hH : b < H) (v : Value) : Keeps L H a (w.setCell ⟨b, o, none⟩ v) :=
  h.trans ⟨rfl, rfl, rfl, by simp [World.setCell], fun k hk => Below.heap_setCell _ _ _ _ (by show k ≠ b; omega)⟩

/-- every bit of z is a bit of z' -/
def More (z z' : Nat → Nat) : Prop := ∀ j K, (z j).testBit K = true → (z' j).testBit K = true
/-- the first k probes of h are set in the n words z -/
def Sets (n : Nat) (z : Nat → Nat) (h : Int) (k : Nat) : Prop := ∀ i, i < k → (z (wordOf h i n)).testBit (bitOf h i n) = true

theorem Sets.more {n : Nat} {z z' : Nat → Nat} {h : Int} {k : Nat} (s : Sets n z h k) (m : More z z') : Sets n z' h k := fun i hi => m _ _ (s i hi)

/-- one bit set -/
def orBit (z : Nat → Nat) (J K : Nat) : Nat → Nat := fun j => if j = J then z j ||| 2 ^ K else z j

theorem more_orBit (z : Nat → Nat) (J K : Nat) : More z (orBit z J K) := fun j k hk => by
  unfold orBit
  by_cases e : j = J
  · rw [if_pos e, Nat.testBit_or, hk]; rfl
  · rw [if_neg e]; exact hk

theorem orBit_set (z : Nat → Nat) (J K : Nat) : (orBit z J K J).testBit K = true := by
  unfold orBit
  rw [if_pos rfl, Nat.testBit_or, Nat.testBit_two_pow_self, Bool.or_true]

theorem Words.orBit {w : World} {b n : Nat} {z : Nat → Nat} (h : Words w b n z) {J K : Nat} (_hJ : J < n) (hK : K < 64) :
    Words (w.setCell ⟨b, J, none⟩ (.int .u64 (bits .or .u64 ((z J : Nat) : Int) ((2 ^ K : Nat) : Int)))) b n (orBit z J K) := by
  refine ⟨fun j hj => ?_, fun j hj => ?_, fun j => ?_⟩
  · by_cases e : J = j
    · subst e
      rw [World.cell?_setCell_same _ _ _ (h.cell J hj), bits_or_nat _ _ (h.fits J) (pow_lt64 hK)]
      unfold Qxb6602307a.orBit
      rw [if_pos rfl]
    · rw [World.cell?_setCell_other _ _ _ _ (by simp), h.cell j hj]
      unfold Qxb6602307a.orBit
      rw [if_neg (fun c => e c.symm)]
  · rw [World.frozen?_setCell]; exact h.free j hj
  · unfold Qxb6602307a.orBit
    split
    · exact Nat.or_lt_two_pow (n := 64) (h.fits j) (pow_lt64 hK)
    · exact h.fits j

set_option maxHeartbeats 400000 in
theorem zzProbe_any (h i : Int) (w : World) (hh : 0 ≤ h) :
    Calls Try.prog 21 #[.int .u64 h, .int .u64 i] w fun e w' => e = .returned (.int .u64 ((probeN h i : Nat) : Int)) ∧ w' = w := by
  go_enter Try.func21, Try.ntmps21
  go_wp2_with (go_at_call 22; refine (probe_any h _ _ hh).mono ?_; rintro e w' ⟨rfl, rfl⟩)
  go_ret
  exact ⟨rfl, rfl⟩

set_option maxHeartbeats 400000 in
theorem setKey_none (a : Option Addr) (c : Nat) (h : Int) (w : World) :
    Calls Try.prog 17 #[.slice a 0 c, .int .u64 h] w fun e w' => e = .returned (.tuple #[]) ∧ w' = w := by
  go_enter Try.func17, Try.ntmps17
  go_wp2
  exact bodyPost_ret (results_none Try.results17 _ _ _) rfl ⟨rfl, rfl⟩

set_option maxHeartbeats 400000 in
theorem setKey_some (L H b n c : Nat) (h : Int) (z : Nat → Nat) (w : World) (hh : 0 ≤ h) (h0 : 0 < n) (hn : n ≤ 1048576) (hL : L ≤ b) (hH : b < H) (hw : Words w b n z) :
    Calls Try.prog 17 #[.slice (some ⟨b, 0, none⟩) n c, .int .u64 h] w fun e w' => e = .returned (.tuple #[]) ∧ ∃ z', Words w' b n z' ∧ More z z' ∧ Sets n z' h 7 ∧ Keeps L H w w' := by
  have hne : ((n : Int) == 0) = false := by simp; omega
  go_enter Try.func17, Try.ntmps17
  go_wp2
  go_loopw [5] (fun i wr => ∃ k : Nat, k ≤ 7 ∧ i = .int .u64 k ∧ ∃ z', Words wr b n z' ∧ More z z' ∧ Sets n z' h k ∧ Keeps L H w wr) (fun i _ => 7 - (intOf i).toNat)
  case atStart => exact ⟨0, Nat.zero_le _, rfl, z, hw, fun _ _ x => x, fun i hi => absurd hi (Nat.not_lt_zero i), Keeps.refl _ _ _⟩
  case round =>
    obtain ⟨k, hk, rfl, z', hw', hmore, hsets, hkeep⟩ := hrel
    by_cases hlt : k < 7
    · obtain ⟨B, eB, eJ, eK⟩ := places h k n h0 hn
      have hJ := wordOf_lt h k n h0
      have hK := bitOf_lt h k n
      have hcJ := hw'.cell _ hJ
      have hfJ := hw'.free _ hJ
      have hs := shift_one _ hK
      have hnew := hw'.orBit hJ hK
      have hkeep2 := hkeep.setCell (o := wordOf h k n) hL hH (.int .u64 (bits .or .u64 ((z' (wordOf h k n) : Nat) : Int) ((2 ^ bitOf h k n : Nat) : Int)))
      have hm2 := more_orBit z' (wordOf h k n) (bitOf h k n)
      have hset2 : Sets n (orBit z' (wordOf h k n) (bitOf h k n)) h (k + 1) := fun i hi => by
        by_cases e : i = k
        · subst e; exact orBit_set _ _ _
        · exact hm2 _ _ (hsets i (by omega))
      have HH : Hid (∃ z'', Words _ b n z'' ∧ More z z'' ∧ Sets n z'' h (k + 1) ∧ Keeps L H w _) := ⟨_, hnew, fun j K x => hm2 j K (hmore j K x), hset2, hkeep2⟩
      clear hw' hmore hsets hkeep hnew hkeep2 hm2 hset2 hw
      generalize z' (wordOf h k n) = Z at hcJ HH
      generalize wordOf h k n = J at eJ hJ hcJ hfJ HH
      generalize bitOf h k n = K at eK hK hs HH
      generalize 2 ^ K = M at hs HH
      have hJ' : (J : Int) < (n : Int) := by omega
      go_wp2_with (go_at_call 21; refine (zzProbe_any h _ _ hh).mono ?_; rintro e w' ⟨rfl, hw'⟩; have hw'' := hw'.symm; clear hw'; subst hw'')
      go_roundw
      case rel => exact ⟨k + 1, by omega, by go_num, HH.out⟩
      case measure => simp [intOf]; omega
    · go_wp2
      go_end0
      have e : k = 7 := by omega
      subst e
      exact ⟨rfl, z', hw', hmore, hsets, hkeep⟩

/-- zzSetKey on whatever slice of the call's own -/
theorem setKey_own (L H : Nat) (a : Option Addr) (n : Nat) (h : Int) (z : Nat → Nat) (w : World) (hh : 0 ≤ h) (hn : n ≤ 1048576) (ho : Own L H w a n z) :
    Calls Try.prog 17 #[.slice a n n, .int .u64 h] w fun e w' => e = .returned (.tuple #[]) ∧ ∃ z', Own L H w' a n z' ∧ More z z' ∧ (0 < n → Sets n z' h 7) ∧ Keeps L H w w' := by
  by_cases h0 : 0 < n
  · obtain ⟨b, hL, hH, rfl, hw⟩ := ho h0
    refine (setKey_some L H b n n h z w hh h0 hn hL hH hw).mono ?_
    rintro e w' ⟨he, z', hw', hm, hs, hk⟩
    exact ⟨he, z', fun _ => ⟨b, hL, hH, rfl, hw'⟩, hm, fun _ => hs, hk⟩
  · have e : n = 0 := by omega
    subst e
    refine (setKey_none a 0 h w).mono ?_
    rintro e w' ⟨he, rfl⟩
    exact ⟨he, z, fun c => absurd c (by omega), fun _ _ x => x, fun c => absurd c (by omega), Keeps.refl _ _ _⟩

/-- ZZFilterHas on a slice of the call's own in which the key's bits are set -/
theorem has_own (L H : Nat) (a : Option Addr) (n : Nat) (h : Int) (z : Nat → Nat) (w : World) (hh : 0 ≤ h) (hn : n ≤ 1048576) (ho : Own L H w a n z) (hs : 0 < n → Sets n z h 7) :
    Calls Try.prog 14 #[.slice a n n, .int .u64 h] w fun e w' => e = .returned (.bool true) ∧ w' = w := by
  refine zzHas_of _ h true w (fun w0 e0 => ?_)
  subst e0
  by_cases h0 : 0 < n
  · obtain ⟨b, hL, hH, rfl, hw⟩ := ho h0
    exact has_true b 0 n n h z w0 hh h0 hn (fun j hj => by rw [Nat.zero_add]; exact hw.cell j hj) hw.fits (hs h0)
  · have e : n = 0 := by omega
    subst e
    exact has_empty a 0 h w0

/-- a slice that came in: nil, or a row of cells below the heap's end -/
def Came (w : World) (a : Option Addr) (n : Nat) (z : Nat → Nat) : Prop :=
  (∀ j, z j < 18446744073709551616) ∧ ((a = none ∧ n = 0) ∨ ∃ x, a = some x ∧ (0 < n → ∃ b off, x = ⟨b, off, none⟩ ∧ b < w.heap.size ∧ ∀ j, j < n → w.cell? ⟨b, off + j, none⟩ = some (.int .u64 ((z j : Nat) : Int))))

theorem Came.below {w w' : World} {a : Option Addr} {n : Nat} {z : Nat → Nat} (h : Came w a n z) (hb : Below w.heap.size w w') : Came w' a n z := by
  obtain ⟨hz, h⟩ := h
  refine ⟨hz, ?_⟩
  rcases h with h | ⟨x, rfl, h⟩
  · exact .inl h
  · refine .inr ⟨x, rfl, fun h0 => ?_⟩
    obtain ⟨b, off, rfl, hlt, hc⟩ := h h0
    exact ⟨b, off, rfl, Nat.lt_of_lt_of_le hlt hb.size, fun j hj => by rw [hb.cell (p := ⟨b, off + j, none⟩) hlt]; exact hc j hj⟩

theorem words_of_alloc (w : World) (C : Array Value) (n : Nat) (z : Nat → Nat) (hz : ∀ j, z j < 18446744073709551616) (hC : ∀ j, j < n → C[j]? = some (.int .u64 ((z j : Nat) : Int))) :
    Words (w.alloc (.cells C 24)) w.heap.size n z :=
  ⟨fun j hj => by rw [World.cell?_alloc_at (hn := rfl)]; exact hC j hj, fun j _ => by rw [World.frozen?_alloc_at (hn := rfl)], hz⟩

/-- zzCloneWords on whatever slice that came in -/
theorem clone_came (a : Option Addr) (n cap : Nat) (z : Nat → Nat) (w : World) (hn : n ≤ 1048576) (hcap : a = none → cap = 0) (hc : Came w a n z) :
    Calls Try.prog 13 #[.slice a n cap] w fun e w' => ∃ a', e = .returned (.slice a' n n) ∧ Own w.heap.size w'.heap.size w' a' n z ∧ Below w.heap.size w w' := by
  obtain ⟨hz, hc⟩ := hc
  rcases hc with ⟨rfl, rfl⟩ | ⟨x, rfl, hx⟩
  · obtain rfl := hcap rfl
    refine (clone_nil w).mono ?_
    rintro e w' ⟨he, rfl⟩
    exact ⟨none, he, fun c => absurd c (by omega), Below.refl _ _⟩
  · by_cases h0 : 0 < n
    · obtain ⟨b, off, rfl, hlt, hcell⟩ := hx h0
      refine (clone_some b off n cap (fun j => ((z j : Nat) : Int)) w hn hlt hcell).mono ?_
      rintro e w' ⟨C, he, rfl, hC, hat⟩
      exact ⟨_, he, fun _ => ⟨w.heap.size, Nat.le_refl _, by simp, rfl, words_of_alloc w C n z hz hat⟩, (Below.refl _ _).alloc (Nat.le_refl _) _⟩
    · have e : n = 0 := by omega
      subst e
      refine (clone_empty x cap w).mono ?_
      rintro e w' ⟨he, rfl⟩
      exact ⟨_, he, fun c => absurd c (by omega), (Below.refl _ _).alloc (Nat.le_refl _) _⟩

theorem Own.below {L H B : Nat} {w w' : World} {a : Option Addr} {n : Nat} {z : Nat → Nat} (h : Own L H w a n z) (hb : Below B w w') (hB : H ≤ B) : Own L H w' a n z := fun h0 => by
  obtain ⟨b, hL, hH, rfl, hw⟩ := h h0
  exact ⟨b, hL, hH, rfl, fun j hj => by rw [hb.cell (p := ⟨b, j, none⟩) (by show b < B; omega)]; exact hw.cell j hj, fun j hj => by rw [hb.frozen (p := ⟨b, j, none⟩) (by show b < B; omega)]; exact hw.free j hj, hw.fits⟩

theorem Own.keeps {L H L' H' : Nat} {w w' : World} {a : Option Addr} {n : Nat} {z : Nat → Nat} (h : Own L H w a n z) (hk : Keeps L' H' w w') (hB : H' ≤ L) : Own L H w' a n z := fun h0 => by
  obtain ⟨b, hL, hH, rfl, hw⟩ := h h0
  have hblk := hk.block b (Or.inr (by omega))
  exact ⟨b, hL, hH, rfl, fun j hj => by rw [World.cell?_of_block (w := w) hblk]; exact hw.cell j hj, fun j hj => by rw [World.frozen?_of_block (w := w) hblk]; exact hw.free j hj, hw.fits⟩

theorem Own.lift {L H : Nat} {w : World} {a : Option Addr} {n : Nat} {z : Nat → Nat} (h : Own L H w a n z) {H' : Nat} (hH : H ≤ H') : Own L H' w a n z := fun h0 => by
  obtain ⟨b, h1, h2, h3, h4⟩ := h h0
  exact ⟨b, h1, by omega, h3, h4⟩

theorem Below.keeps {B L H : Nat} {w0 w w' : World} (h : Below B w0 w) (hk : Keeps L H w w') (hB : B ≤ L) : Below B w0 w' :=
  h.trans ⟨hk.os, hk.tape, hk.output, by rw [hk.size]; exact Nat.le_refl _, fun k hlt => hk.block k (Or.inl (by omega))⟩

set_option maxHeartbeats 400000 in
theorem bytes16_any (a a' : Option Addr) (n cap m cap' : Nat) (w : World) (hn : n ≤ 9223372036854775807) (hm : m ≤ 9223372036854775807) :
    Calls Try.prog 16 #[.slice a n cap, .slice a' m cap'] w fun e w' => e = .returned (.bool (decide (n + m ≤ 1048576))) ∧ w' = w := by
  by_cases h : n + m ≤ 1048576
  · have h1 : ¬ (1048576 : Int) < (n : Int) := by omega
    have h2 : ¬ (1048576 : Int) < (m : Int) := by omega
    have h3 : ¬ (1048576 : Int) < (n : Int) + (m : Int) := by omega
    rw [decide_eq_true h]
    go_enter Try.func16, Try.ntmps16
    go_wp2
    go_ret
    exact ⟨rfl, rfl⟩
  · rw [decide_eq_false h]
    by_cases h1 : n ≤ 1048576
    · have h1' : ¬ (1048576 : Int) < (n : Int) := by omega
      by_cases h2 : m ≤ 1048576
      · have h2' : ¬ (1048576 : Int) < (m : Int) := by omega
        have h3 : (1048576 : Int) < (n : Int) + (m : Int) := by omega
        go_enter Try.func16, Try.ntmps16
        go_wp2
        go_ret
        exact ⟨rfl, rfl⟩
      · have h2' : (1048576 : Int) < (m : Int) := by omega
        go_enter Try.func16, Try.ntmps16
        go_wp2
        go_ret
        exact ⟨rfl, rfl⟩
    · have h1' : (1048576 : Int) < (n : Int) := by omega
      go_enter Try.func16, Try.ntmps16
      go_wp2
      go_ret
      exact ⟨rfl, rfl⟩

set_option maxHeartbeats 400000 in
theorem keys_long (a a' : Option Addr) (n cap m cap' : Nat) (w : World) (hn : n ≤ 9223372036854775807) (hm : m ≤ 9223372036854775807) (h : 131072 < n + m) :
    Calls Try.prog 7 #[.slice a n cap, .slice a' m cap'] w fun e w' => e = .returned (.bool true) ∧ Below w.heap.size w w' := by
  by_cases h0 : n + m ≤ 1048576
  · by_cases h1 : n ≤ 131072
    · have h1' : ¬ (131072 : Int) < (n : Int) := by omega
      by_cases h2 : m ≤ 131072
      · have h2' : ¬ (131072 : Int) < (m : Int) := by omega
        have h3 : (131072 : Int) < (n : Int) + (m : Int) := by omega
        go_enter Try.func7, Try.ntmps7
        go_wp2_with (go_at_call 16; refine (bytes16_any _ _ n _ m _ _ hn hm).mono ?_; rw [decide_eq_true h0]; rintro e w' ⟨rfl, rfl⟩)
        go_ret
        exact ⟨rfl, Below.refl _ _⟩
      · have h2' : (131072 : Int) < (m : Int) := by omega
        go_enter Try.func7, Try.ntmps7
        go_wp2_with (go_at_call 16; refine (bytes16_any _ _ n _ m _ _ hn hm).mono ?_; rw [decide_eq_true h0]; rintro e w' ⟨rfl, rfl⟩)
        go_ret
        exact ⟨rfl, Below.refl _ _⟩
    · have h1' : (131072 : Int) < (n : Int) := by omega
      go_enter Try.func7, Try.ntmps7
      go_wp2_with (go_at_call 16; refine (bytes16_any _ _ n _ m _ _ hn hm).mono ?_; rw [decide_eq_true h0]; rintro e w' ⟨rfl, rfl⟩)
      go_ret
      exact ⟨rfl, Below.refl _ _⟩
  · go_enter Try.func7, Try.ntmps7
    go_wp2_with (go_at_call 16; refine (bytes16_any _ _ n _ m _ _ hn hm).mono ?_; rw [decide_eq_false h0]; rintro e w' ⟨rfl, rfl⟩)
    go_ret
    exact ⟨rfl, Below.refl _ _⟩

set_option maxHeartbeats 400000 in
theorem keys_short (a a' : Option Addr) (n cap m cap' : Nat) (z g : Nat → Nat) (w : World) (h : n + m ≤ 131072) (hcap : a = none → cap = 0) (hcap' : a' = none → cap' = 0) (hf : Came w a n z) (hg : Came w a' m g) :
    Calls Try.prog 7 #[.slice a n cap, .slice a' m cap'] w fun e w' => e = .returned (.bool true) ∧ Below w.heap.size w w' := by
  have h1' : ¬ (131072 : Int) < (n : Int) := by omega
  have h2' : ¬ (131072 : Int) < (m : Int) := by omega
  have h3 : ¬ (131072 : Int) < (n : Int) + (m : Int) := by omega
  go_enter Try.func7, Try.ntmps7
  go_wp2_with (go_at_call 16; refine (bytes16_any _ _ n _ m _ _ (by omega) (by omega)).mono ?_; rw [decide_eq_true (show n + m ≤ 1048576 by omega)]; rintro e w' ⟨rfl, hw'⟩; have hw'' := hw'.symm; clear hw'; subst hw'')
  refine (clone_came a n cap z w (by omega) hcap hf).mono ?_
  rintro e w1 ⟨a1, rfl, ho1, hb1⟩
  go_wp2_with fail
  refine (clone_came a' m cap' g w1 (by omega) hcap' (hg.below hb1)).mono ?_
  rintro e w2 ⟨a2, rfl, ho2, hb2⟩
  have hb : Below w.heap.size w w2 := hb1.trans (hb2.mono hb1.size)
  have ho1' := ho1.below hb2 (Nat.le_refl _)
  have hbs := hb1.size
  go_wp2_with fail
  clear hf hg ho1 hb1 hb2
  have hL2 : w.heap.size ≤ w1.heap.size := hbs
  generalize w1.heap.size = L at ho1' ho2 hL2
  generalize w2.heap.size = H at ho2
  go_loopw [5] (fun i wr => ∃ k : Nat, k ≤ m ∧ i = .int .i64 k ∧ (∃ z', Own w.heap.size L wr a1 n z' ∧ ∀ q, q < k → (0 < n → Sets n z' ((g q : Nat) : Int) 7)) ∧ Own L H wr a2 m g ∧ Below w.heap.size w wr) (fun i _ => m - (intOf i).toNat)
  case atStart => exact ⟨0, Nat.zero_le _, rfl, ⟨z, ho1', fun q hq => absurd hq (Nat.not_lt_zero q)⟩, ho2, hb⟩
  case round =>
    clear hb ho1' ho2
    obtain ⟨k, hk, rfl, ⟨z', ho1, hsets⟩, ho2, hb⟩ := hrel
    by_cases hlt : k < m
    · obtain ⟨b, hbL, hbH, rfl, hw⟩ := ho2 (by omega)
      have hck := hw.cell k hlt
      go_wp2_with fail
      refine (setKey_own w.heap.size L a1 n ((g k : Nat) : Int) z' _ (by omega) (by omega) ho1).mono ?_
      rintro e w3 ⟨rfl, z3, ho3, hmore, hset, hkeep⟩
      have hold := ho2.keeps hkeep (Nat.le_refl _)
      have hb3 := Below.keeps hb hkeep (Nat.le_refl _)
      have hall : ∀ q, q < k + 1 → (0 < n → Sets n z3 ((g q : Nat) : Int) 7) := fun q hq h0 => by
        by_cases e : q = k
        · subst e; exact hset h0
        · exact (hsets q (by omega) h0).more hmore
      go_wp2_with fail
      go_roundw
      case rel => exact ⟨k + 1, by omega, by go_num, ⟨z3, ho3, hall⟩, hold, hb3⟩
      case measure => simp [intOf]; omega
    · have e : k = m := by omega
      subst e
      go_wp2_with fail
      go_loop [6] (fun i => ∃ q : Nat, q ≤ k ∧ i = .int .i64 q) (fun i => k - (intOf i).toNat)
      case atStart => exact ⟨0, Nat.zero_le _, rfl⟩
      case round =>
        obtain ⟨q, hq, rfl⟩ := hrel
        by_cases hqk : q < k
        · obtain ⟨b, hbL, hbH, rfl, hw⟩ := ho2 (by omega)
          have hcq := hw.cell q hqk
          go_wp2_with fail
          refine (has_own w.heap.size L a1 n ((g q : Nat) : Int) z' _ (by omega) (by omega) ho1 (hsets q hqk)).mono ?_
          rintro e w3 ⟨rfl, hw3⟩
          have hw4 := hw3.symm
          clear hw3
          subst hw4
          go_wp2_with fail
          go_round
          case rel => exact ⟨q + 1, by omega, by go_num⟩
          case measure => simp [intOf]; omega
        · go_wp2_with fail
          go_ret
          exact ⟨rfl, hb⟩

end Go.Proofs.Qxb6602307a
