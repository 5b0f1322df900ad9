/-
  THE WALK OF FnHashindexInsertThenDelete.
-/
import Derived.Test.Qxb6602356aCopies
import Derived.Test.Qxb6602356aMulti
import Derived.Test.Qxb6602356aDelete
import Derived.Deep.DeepCutAuto
namespace Go.Proofs.Qxb6602356a
open Go.RowKit

/-! ### holds, sameSlots -/

set_option maxHeartbeats 1000000 in
theorem holds_any (a a' : Option Addr) (n cap cap' hh1 : Nat) (p : Int) (t : Nat → Nat × Int) (w : World) (hn : n ≤ 1048576)
    (hh : HRow w a n (fun j => (t j).1)) (hp : PRow w a' n (fun j => (t j).2)) :
    Calls Try.prog 17 #[.slice a n cap, .slice a' n cap', .int .u64 ((hh1 : Nat) : Int), .int .i64 p] w fun e w' => Ans (∃ j, j < n ∧ t j = (hh1, p)) e ∧ w' = w := by
  go_enter Try.func17, Try.ntmps17
  go_wp2_with fail
  go_loop [9] (fun i => ∃ k : Nat, k ≤ n ∧ i = .int .i64 k ∧ ∀ j, j < k → t j ≠ (hh1, p)) (fun i => n - (intOf i).toNat)
  case atStart => exact ⟨0, Nat.zero_le _, rfl, fun j hj => absurd hj (Nat.not_lt_zero j)⟩
  case round =>
    obtain ⟨k, hk, rfl, hno⟩ := hrel
    by_cases hlt : k < n
    · obtain ⟨b, off, rfl, _, c1⟩ := hh (by omega)
      obtain ⟨b', off', rfl, _, c2⟩ := hp (by omega)
      have hlt' : (k : Int) < (n : Int) := by omega
      have k1 : w.cell? ⟨b, off + k, none⟩ = some (.int .u64 (((t k).1 : Nat) : Int)) := c1 k hlt
      have k2 : w.cell? ⟨b', off' + k, none⟩ = some (.int .i64 (t k).2) := c2 k hlt
      have HNO : Hid (∀ j, j < k → t j ≠ (hh1, p)) := hno
      clear c1 c2 hno
      by_cases q1 : (t k).1 = hh1
      · by_cases q2 : (t k).2 = p
        · have HY : Hid (∃ j, j < n ∧ t j = (hh1, p)) := ⟨k, hlt, Prod.ext q1 q2⟩
          rw [q1] at k1
          rw [q2] at k2
          clear q1 q2
          go_wp2_with fail
          go_ret
          exact ⟨Ans.yes HY.out, rfl⟩
        · have q2' : ((t k).2 == p) = false := by rw [beq_eq_false_iff_ne]; exact q2
          have HN2 : Hid (∀ j, j < k + 1 → t j ≠ (hh1, p)) := fun j hj => by
            by_cases e : j = k
            · subst e; exact fun c => q2 (by rw [c])
            · exact HNO.out j (by omega)
          rw [q1] at k1
          clear q1 q2
          go_wp2_with fail
          go_round
          case rel => exact ⟨k + 1, by omega, by go_num, HN2.out⟩
          case measure => simp [intOf]; omega
      · have q1' : ((((t k).1 : Nat) : Int) == ((hh1 : Nat) : Int)) = false := by rw [beq_eq_false_iff_ne]; omega
        have HN2 : Hid (∀ j, j < k + 1 → t j ≠ (hh1, p)) := fun j hj => by
          by_cases e : j = k
          · subst e; exact fun c => q1 (by rw [c])
          · exact HNO.out j (by omega)
        clear q1
        go_wp2_with fail
        go_round
        case rel => exact ⟨k + 1, by omega, by go_num, HN2.out⟩
        case measure => simp [intOf]; omega
    · have e : n = k := by omega
      subst e
      go_wp2_with fail
      go_ret
      exact ⟨Ans.no (fun ⟨j, hj, e⟩ => hno j hj e), rfl⟩

set_option maxHeartbeats 1000000 in
set_option maxRecDepth 100000 in
theorem same_slots (a1 a2 a3 a4 : Option Addr) (n c1 c2 c3 c4 : Nat) (t : Nat → Nat × Int) (w : World) (hn : n ≤ 1048576)
    (h1 : HRow w a1 n (fun j => (t j).1)) (h2 : PRow w a2 n (fun j => (t j).2)) (h3 : HRow w a3 n (fun j => (t j).1)) (h4 : PRow w a4 n (fun j => (t j).2)) :
    Calls Try.prog 20 #[.slice a1 n c1, .slice a2 n c2, .slice a3 n c3, .slice a4 n c4] w fun e w' => e = .returned (.bool true) ∧ Below w.heap.size w w' := by
  go_enter Try.func20, Try.ntmps20
  go_wp2_with fail
  go_loopw [9] (fun i wr => (∃ q, wr = w.drewN q) ∧ ∃ k : Nat, k ≤ n ∧ i = .int .i64 k) (fun i _ => n - (intOf i).toNat)
  case atStart => exact ⟨⟨0, rfl⟩, 0, Nat.zero_le _, rfl⟩
  case round =>
    obtain ⟨⟨q, rfl⟩, k, hk, rfl⟩ := hrel
    by_cases hlt : k < n
    · obtain ⟨b1, o1, rfl, _, d1⟩ := h1 (by omega)
      obtain ⟨b2, o2, rfl, _, d2⟩ := h2 (by omega)
      obtain ⟨b3, o3, rfl, _, d3⟩ := h3 (by omega)
      obtain ⟨b4, o4, rfl, _, d4⟩ := h4 (by omega)
      have hlt' : (k : Int) < (n : Int) := by omega
      have k1 : (w.drewN q).cell? ⟨b1, o1 + k, none⟩ = some (.int .u64 (((t k).1 : Nat) : Int)) := d1 k hlt
      have k2 : (w.drewN q).cell? ⟨b2, o2 + k, none⟩ = some (.int .i64 (t k).2) := d2 k hlt
      have k3 : (w.drewN q).cell? ⟨b3, o3 + k, none⟩ = some (.int .u64 (((t k).1 : Nat) : Int)) := d3 k hlt
      have k4 : (w.drewN q).cell? ⟨b4, o4 + k, none⟩ = some (.int .i64 (t k).2) := d4 k hlt
      clear d1 d2 d3 d4
      generalize hW : w.drewN q = W at k1 k2 k3 k4 ⊢
      have HW : Hid (w.drewN q = W) := hW
      clear hW
      go_wp2_with fail
      go_quiet (fail)
      go_wp2_with fail
      go_roundw
      case rel => exact ⟨⟨q + nq, by rw [← HW.out, World.drewN_drewN]⟩, k + 1, by omega, by go_num⟩
      case measure => simp [intOf]; omega
    · go_wp2_with fail
      go_ret
      exact ⟨rfl, below_drewN (Below.refl _ _) q⟩

set_option maxHeartbeats 400000 in
theorem bytes19_any (a a' : Option Addr) (n cap m cap' : Nat) (c tch h p : Int) (w : World) (hn : n ≤ 9223372036854775807) (hm : m ≤ 9223372036854775807) :
    Calls Try.prog 19 #[.slice a n cap, .slice a' m cap', .int .i64 c, .int .u64 tch, .int .u64 h, .int .i64 p] w fun e w' => e = .returned (.bool (decide (n + m ≤ 1048576))) ∧ w' = w := by
  by_cases h : n + m ≤ 1048576
  · have h1 : ¬ (1048576 : Int) < (n : Int) := by omega
    have h2 : ¬ (1048576 : Int) < (m : Int) := by omega
    have h3 : ¬ (1048576 : Int) < (n : Int) + (m : Int) := by omega
    rw [decide_eq_true h]
    go_enter Try.func19, Try.ntmps19
    go_wp2
    go_ret
    exact ⟨rfl, rfl⟩
  · rw [decide_eq_false h]
    by_cases h1 : n ≤ 1048576
    · have h1' : ¬ (1048576 : Int) < (n : Int) := by omega
      by_cases h2 : m ≤ 1048576
      · have h2' : ¬ (1048576 : Int) < (m : Int) := by omega
        have h3 : (1048576 : Int) < (n : Int) + (m : Int) := by omega
        go_enter Try.func19, Try.ntmps19
        go_wp2
        go_ret
        exact ⟨rfl, rfl⟩
      · have h2' : (1048576 : Int) < (m : Int) := by omega
        go_enter Try.func19, Try.ntmps19
        go_wp2
        go_ret
        exact ⟨rfl, rfl⟩
    · have h1' : (1048576 : Int) < (n : Int) := by omega
      go_enter Try.func19, Try.ntmps19
      go_wp2
      go_ret
      exact ⟨rfl, rfl⟩

set_option maxHeartbeats 400000 in
set_option maxRecDepth 100000 in
theorem then_long (a a' : Option Addr) (n cap m cap' : Nat) (c tch h p : Int) (w : World) (hn : n ≤ 9223372036854775807) (hm : m ≤ 9223372036854775807) (hl : 1048576 < n + m ∨ 65536 < n ∨ 65536 < m) :
    Calls Try.prog 5 #[.slice a n cap, .slice a' m cap', .int .i64 c, .int .u64 tch, .int .u64 h, .int .i64 p] w fun e w' => e = .returned (.bool true) ∧ Below w.heap.size w w' := by
  by_cases h0 : n + m ≤ 1048576
  · by_cases h1 : 65536 < n
    · have h1' : (65536 : Int) < (n : Int) := by omega
      go_enter Try.func5, Try.ntmps5
      go_wp2_with (go_at_call 19; refine (bytes19_any _ _ n _ m _ _ _ _ _ _ hn hm).mono ?_; rw [decide_eq_true h0]; rintro e w' ⟨rfl, rfl⟩)
      go_ret
      exact ⟨rfl, Below.refl _ _⟩
    · have h1' : ¬ (65536 : Int) < (n : Int) := by omega
      have h2' : (65536 : Int) < (m : Int) := by omega
      go_enter Try.func5, Try.ntmps5
      go_wp2_with (go_at_call 19; refine (bytes19_any _ _ n _ m _ _ _ _ _ _ hn hm).mono ?_; rw [decide_eq_true h0]; rintro e w' ⟨rfl, rfl⟩)
      go_ret
      exact ⟨rfl, Below.refl _ _⟩
  · go_enter Try.func5, Try.ntmps5
    go_wp2_with (go_at_call 19; refine (bytes19_any _ _ n _ m _ _ _ _ _ _ hn hm).mono ?_; rw [decide_eq_false h0]; rintro e w' ⟨rfl, rfl⟩)
    go_ret
    exact ⟨rfl, Below.refl _ _⟩

set_option maxHeartbeats 400000 in
set_option maxRecDepth 100000 in
theorem then_bad (a a' : Option Addr) (n cap m cap' : Nat) (c tch h p : Int) (t : Nat → Nat × Int) (w : World) (hn : n ≤ 65536) (hm : m ≤ 65536)
    (hh : HRow w a n (fun j => (t j).1)) (hp : PRow w a' m (fun j => (t j).2)) (hf : ∀ j, (t j).1 < 18446744073709551616) (hv : ¬ (m = n ∧ Tbl.Valid n t c)) :
    Calls Try.prog 5 #[.slice a n cap, .slice a' m cap', .int .i64 c, .int .u64 tch, .int .u64 h, .int .i64 p] w fun e w' => e = .returned (.bool true) ∧ Below w.heap.size w w' := by
  have h1' : ¬ (65536 : Int) < (n : Int) := by omega
  have h2' : ¬ (65536 : Int) < (m : Int) := by omega
  go_enter Try.func5, Try.ntmps5
  go_wp2_with (first | (go_at_call 19; refine (bytes19_any _ _ n _ m _ _ _ _ _ _ (by omega) (by omega)).mono ?_; rw [decide_eq_true (show n + m ≤ 1048576 by omega)]; rintro e w' ⟨rfl, hw'⟩; have hw'' := hw'.symm; clear hw'; subst hw'') | (go_at_call 9; refine (valid_no _ _ n _ m _ c t _ (by omega) hh hp hf hv).mono ?_; rintro e w' ⟨rfl, hw'⟩; have hw'' := hw'.symm; clear hw'; subst hw''))
  go_ret
  exact ⟨rfl, Below.refl _ _⟩

set_option maxHeartbeats 2000000 in
set_option maxRecDepth 100000 in
theorem then_main (a a' : Option Addr) (n cap cap' c h hh1 : Nat) (tch p : Int) (t : Nat → Nat × Int) (w : World) (hn : n ≤ 65536)
    (hh : HRow w a n (fun j => (t j).1)) (hp : PRow w a' n (fun j => (t j).2)) (hf : ∀ j, (t j).1 < 18446744073709551616) (hv : Tbl.Valid n t (c : Int))
    (hlt : h < 18446744073709551616) (hor : bits .or .u64 (h : Int) 1 = ((hh1 : Nat) : Int)) (hhe : Hid (h ||| 1 = hh1)) (hodd : Hid (hh1 % 2 = 1)) :
    Calls Try.prog 5 #[.slice a n cap, .slice a' n cap', .int .i64 (c : Int), .int .u64 tch, .int .u64 (h : Int), .int .i64 p] w fun e w' => e = .returned (.bool true) ∧ Below w.heap.size w w' := by
  have h1' : ¬ (65536 : Int) < (n : Int) := by omega
  have hcb : c ≤ 65536 := by
    rcases hv with ⟨_, e⟩ | ⟨_, _, _, e⟩ <;> omega
  have hn1 := fun w => run_neq_slice_nil_any (P := Try.prog) w 22 24 a n cap 0 0 Try.underlying22
  have hn2 := fun w => run_neq_slice_nil_any (P := Try.prog) w 23 3 a' n cap' 0 0 Try.underlying23
  go_enter Try.func5, Try.ntmps5
  go_upto_if 45 with (first | (go_at_call 19; refine (bytes19_any _ _ n _ n _ _ _ _ _ _ (by omega) (by omega)).mono ?_; rw [decide_eq_true (show n + n ≤ 1048576 by omega)]; rintro e w' ⟨rfl, hw'⟩; have hw'' := hw'.symm; clear hw'; subst hw'') | (go_at_call 9; refine (valid_yes _ _ n _ _ (c : Int) t _ (by omega) hh hp hf hv).mono ?_; rintro e w' ⟨rfl, hw'⟩; have hw'' := hw'.symm; clear hw'; subst hw''))
  go_cut [0, 13] (fun s0 _ wc => ∃ a1 cap1, s0 = .slice a1 n cap1 ∧ HRow wc a1 n (fun j => (t j).1) ∧ Below w.heap.size w wc)
  case first =>
    cases a with
    | none =>
      go_wp2_with fail
      go_meet
      case rel => exact ⟨none, cap, rfl, hh, Below.refl _ _⟩
    | some x =>
      obtain ⟨W1, W2, hmk, hcp, hI, hb, hz⟩ := copied .u64 22 24 Try.underlying22 Try.info24 n cap x (fun j => (((t j).1 : Nat) : Int)) w (by omega) (fun h0 => by
        obtain ⟨b, off, e, hlt, hc⟩ := hh h0
        exact ⟨b, off, by injection e, hlt, hc⟩)
      go_wp2_with fail
      go_meet
      case rel => exact ⟨_, _, rfl, Ints.hrow hI hz, hb⟩
  case rest =>
    obtain ⟨a1, cap1, rfl, hh1r, hb1⟩ := hcut
    have hp1 := hp.below hb1
    clear hh hp hn1
    go_upto_if 54 with (fail)
    go_cut [1, 14] (fun s1 _ wc2 => ∃ a2 cap2, s1 = .slice a2 n cap2 ∧ HRow wc2 a1 n (fun j => (t j).1) ∧ PRow wc2 a2 n (fun j => (t j).2) ∧ Below w.heap.size w wc2)
    case first =>
      cases a' with
      | none =>
        go_wp2_with fail
        go_meet
        case rel => exact ⟨none, cap', rfl, hh1r, hp1, hb1⟩
      | some x =>
        obtain ⟨W1, W2, hmk, hcp, hI, hb, hz⟩ := copied .i64 23 3 Try.underlying23 Try.info3 n cap' x (fun j => (t j).2) wc (by omega) (fun h0 => by
          obtain ⟨b, off, e, hlt, hc⟩ := hp1 h0
          exact ⟨b, off, by injection e, hlt, hc⟩)
        go_wp2_with fail
        go_meet
        case rel => exact ⟨_, _, rfl, hh1r.below hb, Ints.prow hI hz, hb1.trans (hb.mono hb1.size)⟩
    case rest =>
      clear hh1r hp1 hb1 hn2
      obtain ⟨a2, cap2, rfl, hh2, hp2, hb2⟩ := hcut
      go_wp2_with fail
      refine (holds_any a1 a2 n cap1 cap2 hh1 p t _ (by omega) hh2 hp2).mono ?_
      rintro e w' ⟨⟨v, rfl, hdup⟩, hw'⟩
      have hw'' := hw'.symm
      clear hw'
      subst hw''
      have HDUP : Hid (v = true ↔ ∃ j, j < n ∧ t j = (hh1, p)) := hdup
      clear hdup
      go_wp2_with fail
      refine (make_any a1 a2 n cap1 cap2 c tch t _ (by omega) hh2 hp2 hf).mono ?_
      rintro e w3 ⟨X, aX, rfl, hX1, hX2, hIdx, hSl, hb3⟩
      have hst := St.of hv hX2 hIdx hSl
      clear hIdx hSl
      go_wp2_with fail
      refine (insert_st X n c h p tch t w3 (by omega) hlt hst).mono ?_
      rintro e w4 ⟨rfl, n', t', hins, hst', hb4⟩
      rw [hhe.out] at hins
      have hn' : n' ≤ 131072 := by
        rcases hins with ⟨_, e, _⟩ | ⟨_, e, _⟩
        · omega
        · rw [e]; unfold grown; split <;> omega
      have hperI : (Tbl.items t' n').Perm ((hh1, p) :: Tbl.items t n) := by
        rcases hins with ⟨_, rfl, hi⟩ | ⟨_, _, t1, _, hp1, hi⟩
        · exact hi.items hodd.out
        · exact (hi.items hodd.out).trans (hp1.cons _)
      obtain ⟨s0, hs0, hs1⟩ : ∃ s0, s0 < n' ∧ t' s0 = (hh1, p) := by
        rcases hins with ⟨_, rfl, d, hd, _, _, rfl⟩ | ⟨_, _, t1, _, _, d, hd, _, _, rfl⟩
        · exact ⟨_, Nat.mod_lt _ (by omega), Tbl.upd_same _ _ _⟩
        · exact ⟨_, Nat.mod_lt _ (by omega), Tbl.upd_same _ _ _⟩
      go_wp2_with fail
      refine (delete_st X n' c h s0 p tch t' w4 (by omega) hlt hst' hs0 (by rw [hhe.out]; exact hs1)).mono ?_
      rintro e w5 ⟨rfl, i0, T, hi0, hv0, hperT, hstill, hstT, hb5⟩
      rw [hhe.out] at hv0 hperT
      have hperB : (Tbl.items T n').Perm (Tbl.items t n) := List.Perm.cons_inv (hperT.symm.trans hperI)
      have hbc5 : Below wc.heap.size wc w5 := hb3.trans ((hb4.mono hX1).trans (hb5.mono hX1))
      have hh5 := hh2.below hbc5
      have hp5 := hp2.below hbc5
      have hbw5 := hb2.trans (hbc5.mono hb2.size)
      have hftT : ∀ j, (T j).1 < 18446744073709551616 := by
        rcases hstT.fits with e | e
        · rcases hst'.valid with ⟨_, q⟩ | ⟨q, _⟩
          · omega
          · have := q.1; omega
        · exact e
      have hvT := hstT.valid
      have hcT : Tbl.cnt T n' = c := by
        rcases hvT with ⟨e, e2⟩ | ⟨_, _, e, _⟩
        · subst e; show 0 = c; omega
        · omega
      have hct : Tbl.cnt t n = c := by
        rcases hv with ⟨e, e2⟩ | ⟨_, _, e, _⟩
        · subst e; show 0 = c; omega
        · omega
      have HSame : Hid (4 * (c + 1) ≤ 3 * n → n' = n ∧ (v = false → T = t)) := by
        intro hroom
        rcases hins with ⟨_, rfl, d, hd, _, hemp, ht'⟩ | ⟨hbad, _⟩
        · refine ⟨rfl, fun hvf => ?_⟩
          have hok : Tbl.Ok n' t := by
            rcases hv with ⟨e, _⟩ | ⟨_, e, _⟩
            · omega
            · exact e
          have hE : (Tbl.home n' hh1 + d) % n' < n' := Nat.mod_lt _ (by omega)
          generalize (Tbl.home n' hh1 + d) % n' = E at hE hemp ht'
          have hi : i0 = E := by
            apply Classical.byContradiction
            intro hne
            rw [ht', Tbl.upd_other _ _ _ hne] at hv0
            have := HDUP.out.2 ⟨i0, hi0, hv0⟩
            rw [hvf] at this
            exact Bool.noConfusion this
          have hback : Tbl.upd t' i0 (0, 0) = t := by
            rw [hi, ht', Tbl.upd_upd]
            exact Tbl.upd_self t E (0, 0) (Prod.ext hemp (hok.zero E hE hemp))
          rw [hstill (by rw [hback]; exact hok), hback]
        · omega
      have HGrow : Hid (¬ 4 * (c + 1) ≤ 3 * n → n' = grown n) := by
        intro hroom
        rcases hins with ⟨h1, _⟩ | ⟨_, e, _⟩
        · exact absurd h1 hroom
        · exact e
      have HSt : Hid (St w5 X n' T c tch) := hstT
      have HPB : Hid ((Tbl.items T n').Perm (Tbl.items t n)) := hperB
      have HVT : Hid (Tbl.Valid n' T (c : Int)) := hvT
      have HF0 : Hid (∀ j, (t j).1 < 18446744073709551616) := hf
      have HFT : Hid (∀ j, (T j).1 < 18446744073709551616) := hftT
      clear hh2 hp2 hst hins hst' hperI hs1 hv0 hperT hstill hstT hb3 hb4 hb5 hbc5 hperB hvT hv hf hftT hlt
      go_wp2_with fail
      refine (state_st X n' c tch T w5 (by omega) HSt.out).mono ?_
      rintro e w6 ⟨N1, N2, rfl, hN1, hN2, hN1', hN2', hI1, hI2, hb6⟩
      have hh6 := hh5.below hb6
      have hp6 := hp5.below hb6
      have hbw6 := hbw5.trans (hb6.mono hbw5.size)
      have hHR := Ints.hrow hI1 hN1'
      have hPR := Ints.prow hI2 hN2'
      clear hh5 hp5 hbw5 hI1 hI2 hb6 HSt
      go_wp2_with fail
      refine (valid_yes (some ⟨N1, 0, none⟩) (some ⟨N2, 0, none⟩) n' n' n' (c : Int) T w6 (by omega) hHR hPR HFT.out HVT.out).mono ?_
      rintro e w' ⟨rfl, hw'⟩
      have hw'' := hw'.symm
      clear hw'
      subst hw''
      go_wp2_with fail
      refine (items_any (some ⟨N1, 0, none⟩) (some ⟨N2, 0, none⟩) n' n' n' T w6 (by omega) hHR hPR HFT.out).mono ?_
      rintro e w7 ⟨g3, f3, rfl, hg3, hg3', hT3, hl3, hb7⟩
      have hcn : c ≤ n' := by have := Tbl.cnt_le T n'; omega
      have hcn2 : c ≤ n := by have := Tbl.cnt_le t n; omega
      rw [hcT] at hl3 ⊢
      have hh7 := hh6.below hb7
      have hp7 := hp6.below hb7
      clear hcT
      go_wp2_with fail
      refine (items_any a1 a2 n cap1 cap2 t w7 (by omega) hh7 hp7 HF0.out).mono ?_
      rintro e w8 ⟨g4, f4, rfl, hg4, hg4', hT4, hl4, hb8⟩
      rw [hct] at hl4 ⊢
      clear hct
      have hT3' := hT3.below hb8 hg3'
      have hg3'' := Nat.lt_of_lt_of_le hg3' hb8.size
      go_wp2_with fail
      refine (same_any g3 0 n' g4 0 n c f3 f4 w8 (by omega) hcn (by omega) hcn2 (by omega) (hT3'.rd hg3'' c hcn) (hT4.rd hg4' c hcn2) (by rw [hl3, hl4]; exact HPB.out)).mono ?_
      rintro e w9 ⟨rfl, hb9⟩
      have hb69 : Below w6.heap.size w6 w9 := (hb7.trans (hb8.mono hb7.size)).trans (hb9.mono (Nat.le_trans hb7.size hb8.size))
      have hh9 := hh6.below hb69
      have hp9 := hp6.below hb69
      have hHR9 := hHR.below hb69
      have hPR9 := hPR.below hb69
      have hbw9 := hbw6.trans (hb69.mono hbw6.size)
      clear hT3 hT3' hT4 hl3 hl4 hb7 hb8 hb9 hh6 hp6 hh7 hp7 hHR hPR hb69 hbw6
      by_cases hroom : 4 * (c + 1) ≤ 3 * n
      · have hroom' : 4 * ((c : Int) + 1) ≤ 3 * (n : Int) := by omega
        obtain ⟨e1, e2⟩ := HSame.out hroom
        subst e1
        cases v with
        | true =>
          clear e2 HDUP
          go_wp2_with fail
          go_ret
          exact ⟨rfl, hbw9⟩
        | false =>
          have e3 := e2 rfl
          subst e3
          clear e2 HDUP
          go_wp2_with fail
          refine (same_slots _ _ _ _ n' n' n' cap1 cap2 T w9 (by omega) hHR9 hPR9 hh9 hp9).mono ?_
          rintro e w10 ⟨rfl, hb10⟩
          go_wp2_with fail
          go_ret
          exact ⟨rfl, hbw9.trans (hb10.mono hbw9.size)⟩
      · have hroom' : ¬ 4 * ((c : Int) + 1) ≤ 3 * (n : Int) := by omega
        have hgr := HGrow.out hroom
        have hne : (((n' : Nat) : Int) == ((grown n : Nat) : Int)) = true := by rw [hgr]; exact beq_self_eq_true _
        clear hgr hroom HDUP HSame
        go_wp2_with fail
        refine (grownLen_any n w9 (by omega)).mono ?_
        rintro e w' ⟨rfl, hw'⟩
        have hw'' := hw'.symm
        clear hw'
        subst hw''
        go_wp2_with fail
        go_ret
        exact ⟨ret_bool (by first | exact hne | rfl), hbw9⟩

/-- the law's walk, whatever the arguments -/
theorem then_any (a a' : Option Addr) (n cap m cap' : Nat) (c tch h p : Int) (t : Nat → Nat × Int) (w : World) (hn : n ≤ 9223372036854775807) (hm : m ≤ 9223372036854775807)
    (hh : HRow w a n (fun j => (t j).1)) (hp : PRow w a' m (fun j => (t j).2)) (hf : ∀ j, (t j).1 < 18446744073709551616) (h0 : 0 ≤ h) (h1 : h < 18446744073709551616) :
    Calls Try.prog 5 #[.slice a n cap, .slice a' m cap', .int .i64 c, .int .u64 tch, .int .u64 h, .int .i64 p] w fun e w' => e = .returned (.bool true) ∧ Below w.heap.size w w' := by
  by_cases hl : 1048576 < n + m ∨ 65536 < n ∨ 65536 < m
  · exact then_long a a' n cap m cap' c tch h p w hn hm hl
  · by_cases hv : m = n ∧ Tbl.Valid n t c
    · obtain ⟨rfl, hv⟩ := hv
      have hc0 : 0 ≤ c := by
        rcases hv with ⟨_, e⟩ | ⟨_, _, e, _⟩ <;> omega
      obtain ⟨c', rfl⟩ := Int.eq_ofNat_of_zero_le hc0
      obtain ⟨h', rfl⟩ := Int.eq_ofNat_of_zero_le h0
      obtain ⟨e1, e2, _⟩ := or1 h' (by omega)
      exact then_main a a' m cap cap' c' h' (h' ||| 1) tch p t w (by omega) hh hp hf hv (by omega) e1 rfl e2
    · exact then_bad a a' n cap m cap' c tch h p t w (by omega) (by omega) hh hp hf hv

end Go.Proofs.Qxb6602356a
