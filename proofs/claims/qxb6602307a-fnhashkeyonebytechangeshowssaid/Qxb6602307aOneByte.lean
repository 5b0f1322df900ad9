/-
  THE WALK OF FnHashKeyOneByteChangeShows.
-/
import Derived.Test.Qxb6602307aHashWalks
import Derived.Laws.IdiomStrings
import Derived.Deep.QuietTactic
import Derived.BigQuiet
import Derived.Deep.RegionWith
import Derived.OpenShut
namespace Go.Proofs.Qxb6602307a
open Go.RowKit

theorem add0 (b j : Nat) : (⟨b, 0, none⟩ : Addr).add j = ⟨b, j, none⟩ := by
  by_cases h : j = 0 <;> simp [Addr.add, h]

theorem ret_bool {a b : Bool} (h : a = b) : Ending.returned (.bool a) = .returned (.bool b) := by rw [h]

set_option maxHeartbeats 400000 in
theorem one_long (s : ByteArray) (i c : Int) (w : World) (hs : s.size ≤ 9223372036854775807) (h : ¬ s.size ≤ 1048576) :
    Calls Try.prog 4 #[.string s, .int .i64 i, .int .u8 c] w fun e w' => e = .returned (.bool true) ∧ Below w.heap.size w w' := by
  go_enter Try.func4, Try.ntmps4
  go_wp2_with (go_at_call 11; refine (bytes11_any s i c _ hs).mono ?_; rw [decide_eq_false h]; rintro e w' ⟨rfl, rfl⟩)
  go_ret
  exact ⟨rfl, Below.refl _ _⟩

set_option maxHeartbeats 400000 in
theorem one_out (s : ByteArray) (i c : Int) (w : World) (h : s.size ≤ 1048576) (hi : i < 0 ∨ (s.size : Int) ≤ i) :
    Calls Try.prog 4 #[.string s, .int .i64 i, .int .u8 c] w fun e w' => e = .returned (.bool true) ∧ Below w.heap.size w w' := by
  have h1 : ¬ (1048576 : Int) < (s.size : Int) := by omega
  rcases hi with hi | hi
  · go_enter Try.func4, Try.ntmps4
    go_wp2_with (go_at_call 11; refine (bytes11_any s i c _ (by omega)).mono ?_; rw [decide_eq_true h]; rintro e w' ⟨rfl, rfl⟩)
    go_ret
    exact ⟨rfl, Below.refl _ _⟩
  · by_cases h0 : i < 0
    · omega
    · go_enter Try.func4, Try.ntmps4
      go_wp2_with (go_at_call 11; refine (bytes11_any s i c _ (by omega)).mono ?_; rw [decide_eq_true h]; rintro e w' ⟨rfl, rfl⟩)
      go_ret
      exact ⟨rfl, Below.refl _ _⟩

set_option maxHeartbeats 400000 in
theorem one_same (s : ByteArray) (i : Nat) (c : Int) (w : World) (h : s.size ≤ 1048576) (hi : i < s.size) (hc : (((s[i].toNat : Nat) : Int) == c) = true) :
    Calls Try.prog 4 #[.string s, .int .i64 i, .int .u8 c] w fun e w' => e = .returned (.bool true) ∧ Below w.heap.size w w' := by
  have h1 : ¬ (1048576 : Int) < (s.size : Int) := by omega
  go_enter Try.func4, Try.ntmps4
  go_wp2_with (go_at_call 11; refine (bytes11_any s i c _ (by omega)).mono ?_; rw [decide_eq_true h]; rintro e w' ⟨rfl, rfl⟩)
  go_ret
  exact ⟨rfl, Below.refl _ _⟩

set_option maxHeartbeats 400000 in
theorem one_differs (s r : ByteArray) (i cap : Nat) (c : Int) (C : Array Value) (w : World) (h : s.size ≤ 1048576) (hr : r.size ≤ 9223372036854775807) (hi : i < s.size) (hc : (((s[i].toNat : Nat) : Int) == c) = false)
    (hconv : (convert 9 23 (.string s)).run Try.prog w = .ok (.slice (some ⟨w.heap.size, 0, none⟩) s.size cap) (w.drew.alloc (.cells C 5 (C.size, C.size + 1))))
    (c0 : Value) (hc0 : (w.alloc (.cells C 5 (C.size, C.size + 1))).cell? ⟨w.heap.size, i, none⟩ = some c0) (hz0 : (w.alloc (.cells C 5 (C.size, C.size + 1))).frozen? ⟨w.heap.size, i, none⟩ = false)
    (hback : ∀ n, (convert 23 9 (.slice (some ⟨w.heap.size, 0, none⟩) s.size cap)).run Try.prog (((w.alloc (.cells C 5 (C.size, C.size + 1))).setCell ⟨w.heap.size, i, none⟩ (.int .u8 c)).drewN n) = .ok (.string r) (((w.alloc (.cells C 5 (C.size, C.size + 1))).setCell ⟨w.heap.size, i, none⟩ (.int .u8 c)).drewN n))
    (hne : (((Hash.hk s.data.toList : Nat) : Int) == ((Hash.hk r.data.toList : Nat) : Int)) = false) :
    Calls Try.prog 4 #[.string s, .int .i64 i, .int .u8 c] w fun e w' => e = .returned (.bool true) ∧ Below w.heap.size w w' := by
  have h1 : ¬ (1048576 : Int) < (s.size : Int) := by omega
  have hi' : (i : Int) < (s.size : Int) := by omega
  go_enter Try.func4, Try.ntmps4
  go_wp2_with (go_at_call 11; refine (bytes11_any s i c _ (by omega)).mono ?_; rw [decide_eq_true h]; rintro e w' ⟨rfl, hw'⟩; have hw'' := hw'.symm; clear hw'; subst hw'')
  have hb : Below w.heap.size w (((w.alloc (.cells C 5 (C.size, C.size + 1))).setCell ⟨w.heap.size, i, none⟩ (.int .u8 c)).drew) :=
    (((Below.refl _ _).alloc (Nat.le_refl _) _).setCell (Nat.le_refl _) _).drew
  have hback2 : ∀ n, (convert 23 9 (.slice (some ⟨w.heap.size, 0, none⟩) s.size cap)).run Try.prog ((((w.alloc (.cells C 5 (C.size, C.size + 1))).setCell ⟨w.heap.size, i, none⟩ (.int .u8 c)).drew).drewN n)
      = .ok (.string r) ((((w.alloc (.cells C 5 (C.size, C.size + 1))).setCell ⟨w.heap.size, i, none⟩ (.int .u8 c)).drew).drewN n) := fun n => by
    rw [World.drewN_drew]; exact hback (1 + n)
  clear hback hc0 hz0 hconv
  generalize (((w.alloc (.cells C 5 (C.size, C.size + 1))).setCell ⟨w.heap.size, i, none⟩ (.int .u8 c)).drew) = W1 at hb hback2 ⊢
  go_quiet (first | (go_at_call_of 10 (Value.string s); exact Calls.quiet_of_same (zzHashKey_any s _ (by omega))) | (go_at_call_of 10 (Value.string r); exact Calls.quiet_of_same (zzHashKey_any r _ hr)))
  go_wp2
  go_ret
  exact ⟨ret_bool (by rw [bne, hne]; rfl), below_drewN hb _⟩

/-- the law's walk, whatever the arguments -/
theorem one_any (s : ByteArray) (i c : Int) (w : World) (hs : s.size ≤ maxLen) (hc : (Lit.int .u8 c).wf = true) :
    Calls Try.prog 4 #[.string s, .int .i64 i, .int .u8 c] w fun e w' => e = .returned (.bool true) ∧ Below w.heap.size w w' := by
  unfold maxLen at hs
  by_cases h : s.size ≤ 1048576
  · by_cases hi : i < 0 ∨ (s.size : Int) ≤ i
    · exact one_out s i c w h hi
    · obtain ⟨n, rfl⟩ := Int.eq_ofNat_of_zero_le (show 0 ≤ i by omega)
      have hn : n < s.size := by omega
      by_cases he : (((s[n].toNat : Nat) : Int) == c) = true
      · exact one_same s n c w h hn he
      · have he' : (((s[n].toNat : Nat) : Int) == c) = false := by simpa using he
        obtain ⟨hc0, hc1⟩ := bounds_u8 hc
        obtain ⟨m, rfl⟩ := Int.eq_ofNat_of_zero_le hc0
        have hm : (UInt8.ofNat m).toNat = m := by simp; omega
        have hlen : (s.data.toList.set n (UInt8.ofNat m)).length = s.size := by simp
        generalize hcap : grownCap w s.size 0 5 = cap
        have hconv := run_bytes_of_string (P := Try.prog) w 9 23 5 s Try.underlying9 Try.underlying23 Try.underlying5
        rw [hcap] at hconv
        have hsz : s.size ≤ (bytesRow s cap).size := by unfold bytesRow; simp
        have hat : ∀ j (hj : j < s.size), (bytesRow s cap)[j]? = some (.int .u8 (s.data[j].toNat : Int)) := fun j hj => bytesRow_at s cap j hj
        generalize bytesRow s cap = C at hconv hsz hat
        have hcell : ∀ j (hj : j < s.size), (w.alloc (.cells C 5 (C.size, C.size + 1))).cell? ⟨w.heap.size, j, none⟩ = some (.int .u8 (s.data[j].toNat : Int)) := fun j hj => by
          rw [World.cell?_alloc_mark]; exact hat j hj
        refine one_differs s ⟨(s.data.toList.set n (UInt8.ofNat m)).toArray⟩ n cap m C w h ?_ hn he' hconv _ (hcell n hn) ?_ ?_ ?_
        · show (s.data.toList.set n (UInt8.ofNat m)).toArray.size ≤ _
          rw [List.size_toArray, hlen]; omega
        · rw [World.frozen?_alloc_mark]; simp; omega
        · intro q
          have hb := run_convert_bytes_back (P := Try.prog) (((w.alloc (.cells C 5 (C.size, C.size + 1))).setCell ⟨w.heap.size, n, none⟩ (.int .u8 m)).drewN q) 23 9 5 ⟨w.heap.size, 0, none⟩ cap (s.data.toList.set n (UInt8.ofNat m)) Try.underlying23 Try.underlying5 Try.underlying9 ?_
          · rw [hlen] at hb; exact hb
          · intro j hj
            rw [hlen] at hj
            rw [World.cell?_drewN]
            rw [add0]
            by_cases hjn : n = j
            · subst hjn
              rw [World.cell?_setCell_same _ _ _ (hcell n hn)]
              simp [hm]
            · rw [World.cell?_setCell_other _ _ _ _ (by simp), hcell j hj]
              rw [List.getElem_set_ne hjn]
              simp
        · have hne := Hash.hk_set (l := s.data.toList) (i := n) (by simpa using hn) (c := UInt8.ofNat m) (fun e => by
            simp at he'
            apply he'
            have : s[n] = UInt8.ofNat m := e
            rw [this, hm])
          simp only [beq_eq_false_iff_ne, ne_eq]
          intro e
          exact hne (by simpa using Int.ofNat.inj e)
  · exact one_long s i c w (by omega) h

end Go.Proofs.Qxb6602307a
