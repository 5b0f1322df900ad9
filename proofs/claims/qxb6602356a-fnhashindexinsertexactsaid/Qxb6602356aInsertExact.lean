/-
  THE WALK OF FnHashindexInsertExact.
-/
import Derived.Test.Qxb6602356aCopies
import Derived.Test.Qxb6602356aMulti
import Derived.Deep.DeepCutAuto
namespace Go.Proofs.Qxb6602356a
open Go.RowKit

set_option maxHeartbeats 400000 in
theorem bytes8_any (a a' : Option Addr) (n cap m cap' : Nat) (c tch h p : Int) (w : World) (hn : n ≤ 9223372036854775807) (hm : m ≤ 9223372036854775807) :
    Calls Try.prog 8 #[.slice a n cap, .slice a' m cap', .int .i64 c, .int .u64 tch, .int .u64 h, .int .i64 p] w fun e w' => e = .returned (.bool (decide (n + m ≤ 1048576))) ∧ w' = w := by
  by_cases h : n + m ≤ 1048576
  · have h1 : ¬ (1048576 : Int) < (n : Int) := by omega
    have h2 : ¬ (1048576 : Int) < (m : Int) := by omega
    have h3 : ¬ (1048576 : Int) < (n : Int) + (m : Int) := by omega
    rw [decide_eq_true h]
    go_enter Try.func8, Try.ntmps8
    go_wp2
    go_ret
    exact ⟨rfl, rfl⟩
  · rw [decide_eq_false h]
    by_cases h1 : n ≤ 1048576
    · have h1' : ¬ (1048576 : Int) < (n : Int) := by omega
      by_cases h2 : m ≤ 1048576
      · have h2' : ¬ (1048576 : Int) < (m : Int) := by omega
        have h3 : (1048576 : Int) < (n : Int) + (m : Int) := by omega
        go_enter Try.func8, Try.ntmps8
        go_wp2
        go_ret
        exact ⟨rfl, rfl⟩
      · have h2' : (1048576 : Int) < (m : Int) := by omega
        go_enter Try.func8, Try.ntmps8
        go_wp2
        go_ret
        exact ⟨rfl, rfl⟩
    · have h1' : (1048576 : Int) < (n : Int) := by omega
      go_enter Try.func8, Try.ntmps8
      go_wp2
      go_ret
      exact ⟨rfl, rfl⟩

set_option maxHeartbeats 400000 in
set_option maxRecDepth 100000 in
theorem exact_long (a a' : Option Addr) (n cap m cap' : Nat) (c tch h p : Int) (w : World) (hn : n ≤ 9223372036854775807) (hm : m ≤ 9223372036854775807) (hl : 1048576 < n + m ∨ 65536 < n ∨ 65536 < m) :
    Calls Try.prog 3 #[.slice a n cap, .slice a' m cap', .int .i64 c, .int .u64 tch, .int .u64 h, .int .i64 p] w fun e w' => e = .returned (.bool true) ∧ Below w.heap.size w w' := by
  by_cases h0 : n + m ≤ 1048576
  · by_cases h1 : 65536 < n
    · have h1' : (65536 : Int) < (n : Int) := by omega
      go_enter Try.func3, Try.ntmps3
      go_wp2_with (go_at_call 8; refine (bytes8_any _ _ n _ m _ _ _ _ _ _ hn hm).mono ?_; rw [decide_eq_true h0]; rintro e w' ⟨rfl, rfl⟩)
      go_ret
      exact ⟨rfl, Below.refl _ _⟩
    · have h1' : ¬ (65536 : Int) < (n : Int) := by omega
      have h2' : (65536 : Int) < (m : Int) := by omega
      go_enter Try.func3, Try.ntmps3
      go_wp2_with (go_at_call 8; refine (bytes8_any _ _ n _ m _ _ _ _ _ _ hn hm).mono ?_; rw [decide_eq_true h0]; rintro e w' ⟨rfl, rfl⟩)
      go_ret
      exact ⟨rfl, Below.refl _ _⟩
  · go_enter Try.func3, Try.ntmps3
    go_wp2_with (go_at_call 8; refine (bytes8_any _ _ n _ m _ _ _ _ _ _ hn hm).mono ?_; rw [decide_eq_false h0]; rintro e w' ⟨rfl, rfl⟩)
    go_ret
    exact ⟨rfl, Below.refl _ _⟩

set_option maxHeartbeats 400000 in
set_option maxRecDepth 100000 in
theorem exact_bad (a a' : Option Addr) (n cap m cap' : Nat) (c tch h p : Int) (t : Nat → Nat × Int) (w : World) (hn : n ≤ 65536) (hm : m ≤ 65536)
    (hh : HRow w a n (fun j => (t j).1)) (hp : PRow w a' m (fun j => (t j).2)) (hf : ∀ j, (t j).1 < 18446744073709551616) (hv : ¬ (m = n ∧ Tbl.Valid n t c)) :
    Calls Try.prog 3 #[.slice a n cap, .slice a' m cap', .int .i64 c, .int .u64 tch, .int .u64 h, .int .i64 p] w fun e w' => e = .returned (.bool true) ∧ Below w.heap.size w w' := by
  have h1' : ¬ (65536 : Int) < (n : Int) := by omega
  have h2' : ¬ (65536 : Int) < (m : Int) := by omega
  go_enter Try.func3, Try.ntmps3
  go_wp2_with (first | (go_at_call 8; refine (bytes8_any _ _ n _ m _ _ _ _ _ _ (by omega) (by omega)).mono ?_; rw [decide_eq_true (show n + m ≤ 1048576 by omega)]; rintro e w' ⟨rfl, hw'⟩; have hw'' := hw'.symm; clear hw'; subst hw'') | (go_at_call 9; refine (valid_no _ _ n _ m _ c t _ (by omega) hh hp hf hv).mono ?_; rintro e w' ⟨rfl, hw'⟩; have hw'' := hw'.symm; clear hw'; subst hw''))
  go_ret
  exact ⟨rfl, Below.refl _ _⟩

set_option maxHeartbeats 2000000 in
set_option maxRecDepth 100000 in
theorem exact_main (a a' : Option Addr) (n cap cap' c h hh1 : Nat) (tch p : Int) (t : Nat → Nat × Int) (w : World) (hn : n ≤ 65536)
    (hh : HRow w a n (fun j => (t j).1)) (hp : PRow w a' n (fun j => (t j).2)) (hf : ∀ j, (t j).1 < 18446744073709551616) (hv : Tbl.Valid n t (c : Int))
    (hlt : h < 18446744073709551616) (hor : bits .or .u64 (h : Int) 1 = ((hh1 : Nat) : Int)) (hhe : Hid (h ||| 1 = hh1)) (hodd : Hid (hh1 % 2 = 1)) :
    Calls Try.prog 3 #[.slice a n cap, .slice a' n cap', .int .i64 (c : Int), .int .u64 tch, .int .u64 (h : Int), .int .i64 p] w fun e w' => e = .returned (.bool true) ∧ Below w.heap.size w w' := by
  have h1' : ¬ (65536 : Int) < (n : Int) := by omega
  have hcb : c ≤ 65536 := by
    rcases hv with ⟨_, e⟩ | ⟨_, _, _, e⟩ <;> omega
  have hn1 := fun w => run_neq_slice_nil_any (P := Try.prog) w 22 24 a n cap 0 0 Try.underlying22
  have hn2 := fun w => run_neq_slice_nil_any (P := Try.prog) w 23 3 a' n cap' 0 0 Try.underlying23
  go_enter Try.func3, Try.ntmps3
  go_upto_if 51 with (first | (go_at_call 8; refine (bytes8_any _ _ n _ n _ _ _ _ _ _ (by omega) (by omega)).mono ?_; rw [decide_eq_true (show n + n ≤ 1048576 by omega)]; rintro e w' ⟨rfl, hw'⟩; have hw'' := hw'.symm; clear hw'; subst hw'') | (go_at_call 9; refine (valid_yes _ _ n _ _ (c : Int) t _ (by omega) hh hp hf hv).mono ?_; rintro e w' ⟨rfl, hw'⟩; have hw'' := hw'.symm; clear hw'; subst hw''))
  go_cut [0, 13] (fun s0 _ wc => ∃ a1 cap1, s0 = .slice a1 n cap1 ∧ HRow wc a1 n (fun j => (t j).1) ∧ Below w.heap.size w wc)
  case first =>
    cases a with
    | none =>
      go_wp2_with fail
      go_meet
      case rel => exact ⟨none, cap, rfl, hh, Below.refl _ _⟩
    | some x =>
      obtain ⟨W1, W2, hmk, hcp, hI, hb, hz⟩ := copied .u64 22 24 Try.underlying22 Try.info24 n cap x (fun j => (((t j).1 : Nat) : Int)) w (by omega) (fun h0 => by
        obtain ⟨b, off, e, hlt, hc⟩ := hh h0
        exact ⟨b, off, by injection e, hlt, hc⟩)
      go_wp2_with fail
      go_meet
      case rel => exact ⟨_, _, rfl, Ints.hrow hI hz, hb⟩
  case rest =>
    obtain ⟨a1, cap1, rfl, hh1r, hb1⟩ := hcut
    have hp1 := hp.below hb1
    clear hh hp hn1
    go_upto_if 60 with (fail)
    go_cut [1, 14] (fun s1 _ wc2 => ∃ a2 cap2, s1 = .slice a2 n cap2 ∧ HRow wc2 a1 n (fun j => (t j).1) ∧ PRow wc2 a2 n (fun j => (t j).2) ∧ Below w.heap.size w wc2)
    case first =>
      cases a' with
      | none =>
        go_wp2_with fail
        go_meet
        case rel => exact ⟨none, cap', rfl, hh1r, hp1, hb1⟩
      | some x =>
        obtain ⟨W1, W2, hmk, hcp, hI, hb, hz⟩ := copied .i64 23 3 Try.underlying23 Try.info3 n cap' x (fun j => (t j).2) wc (by omega) (fun h0 => by
          obtain ⟨b, off, e, hlt, hc⟩ := hp1 h0
          exact ⟨b, off, by injection e, hlt, hc⟩)
        go_wp2_with fail
        go_meet
        case rel => exact ⟨_, _, rfl, hh1r.below hb, Ints.prow hI hz, hb1.trans (hb.mono hb1.size)⟩
    case rest =>
      clear hh1r hp1 hb1 hn2
      obtain ⟨a2, cap2, rfl, hh2, hp2, hb2⟩ := hcut
      go_wp2_with fail
      refine (make_any a1 a2 n cap1 cap2 c tch t _ (by omega) hh2 hp2 hf).mono ?_
      rintro e w3 ⟨X, aX, rfl, hX1, hX2, hIdx, hSl, hb3⟩
      have hst := St.of hv hX2 hIdx hSl
      have hbw3 := hb2.trans (hb3.mono hb2.size)
      clear hIdx hSl
      go_wp2_with fail
      refine (insert_st X n c h p tch t w3 (by omega) hlt hst).mono ?_
      rintro e w4 ⟨rfl, n', t', hins, hst', hb4⟩
      have hbc4 := hb3.trans (hb4.mono hX1)
      have hh4 := hh2.below hbc4
      have hp4 := hp2.below hbc4
      have hbw4 := hb2.trans (hbc4.mono hb2.size)
      have hn' : n' ≤ 131072 := by
        rcases hins with ⟨_, e, _⟩ | ⟨_, e, _⟩
        · omega
        · rw [e]; unfold grown; split <;> omega
      have hft' : ∀ j, (t' j).1 < 18446744073709551616 := by
        rcases hst'.fits with e | e
        · rcases hst'.valid with ⟨_, q⟩ | ⟨q, _⟩
          · omega
          · have := q.1; omega
        · exact e
      have hv' := hst'.valid
      rw [hhe.out] at hins
      clear hh2 hp2 hst hb3 hb4 hbc4 hbw3
      go_wp2_with fail
      refine (state_st X n' (c + 1) tch t' w4 (by omega) hst').mono ?_
      rintro e w5 ⟨N1, N2, rfl, hN1, hN2, hN1', hN2', hI1, hI2, hb5⟩
      have hh5 := hh4.below hb5
      have hp5 := hp4.below hb5
      have hbw5 := hbw4.trans (hb5.mono hbw4.size)
      clear hh4 hp4 hbw4 hst' hb5
      have HF1 : Hid (∀ j, (t' j).1 < 18446744073709551616) := hft'
      have HF0 : Hid (∀ j, (t j).1 < 18446744073709551616) := hf
      have HV1 : Hid (Tbl.Valid n' t' ((c + 1 : Nat) : Int)) := hv'
      have HV0 : Hid (Tbl.Valid n t (c : Int)) := hv
      have HIN : Hid (InsR n t c hh1 p n' t') := hins
      clear hft' hf hv' hv hins hlt
      go_wp2_with fail
      refine (valid_yes (some ⟨N1, 0, none⟩) (some ⟨N2, 0, none⟩) n' n' n' ((c : Int) + 1) t' w5 (by omega) (Ints.hrow hI1 hN1') (Ints.prow hI2 hN2') HF1.out (by have := HV1.out; rw [show ((c + 1 : Nat) : Int) = (c : Int) + 1 by omega] at this; exact this)).mono ?_
      rintro e w' ⟨rfl, hw'⟩
      have hw'' := hw'.symm
      clear hw'
      subst hw''
      by_cases hroom : 4 * (c + 1) ≤ 3 * n
      · have hroom' : 4 * ((c : Int) + 1) ≤ 3 * (n : Int) := by omega
        obtain ⟨d, hd, hpath, hemp, ht', hnn⟩ : ∃ d, d < n ∧ (∀ d', d' < d → (t ((Tbl.home n hh1 + d') % n)).1 ≠ 0) ∧ (t ((Tbl.home n hh1 + d) % n)).1 = 0 ∧ t' = Tbl.upd t ((Tbl.home n hh1 + d) % n) (hh1, p) ∧ n' = n := by
          rcases HIN.out with ⟨_, e, d, h1, h2, h3, h4⟩ | ⟨hbad, _⟩
          · exact ⟨d, h1, h2, h3, h4, e⟩
          · omega
        have hnn' := hnn.symm
        clear hnn
        subst hnn'
        have hE : (Tbl.home n hh1 + d) % n < n := Nat.mod_lt _ (by omega)
        have hPow : Tbl.Pow n := by
          rcases HV0.out with ⟨e, _⟩ | ⟨e, _⟩
          · omega
          · exact e
        have h16 := hPow.1
        have hmask := hPow.mask (by omega)
        obtain ⟨b, off, rfl, _, hc1⟩ := hh5 (by omega)
        obtain ⟨b', off', rfl, _, hc2⟩ := hp5 (by omega)
        have hdist : Tbl.dist n (Tbl.home n hh1) ((Tbl.home n hh1 + d) % n) = d := Tbl.dist_of (Tbl.home_lt (by omega) _) hd
        have hlt1 : hh1 < 18446744073709551616 := by
          have := HF1.out ((Tbl.home n hh1 + d) % n)
          rw [ht', Tbl.upd_same] at this
          exact this
        have hhz : hh1 ≠ 0 := by have := hodd.out; omega
        have HP : Hid (∀ d', d' < d → (t ((Tbl.home n hh1 + d') % n)).1 ≠ 0) := hpath
        have hHl : Tbl.home n hh1 < n := Tbl.home_lt (by omega) _
        have eH : wrap64 ((hh1 : Int) / 2) % (n : Int) = ((Tbl.home n hh1 : Nat) : Int) := by
          rw [wrap64_half hlt1]; unfold Tbl.home; rw [Int.natCast_emod]
        have eD := Tbl.dist_int (n := n) (a := Tbl.home n hh1) (b := (Tbl.home n hh1 + d) % n) hHl
        rw [hdist] at eD
        have HJ : Hid (∀ k, (Tbl.home n hh1 + k) % n < n ∧ (((Tbl.home n hh1 : Nat) : Int) + (k : Int)) % (n : Int) = (((Tbl.home n hh1 + k) % n : Nat) : Int)) := fun k => ⟨Nat.mod_lt _ (by omega), by rw [Int.natCast_emod]; rfl⟩
        generalize hEE : (Tbl.home n hh1 + d) % n = E at hE hemp ht' eD
        clear hEE hpath hdist hlt1
        have hnew1 : ∀ j, j < n → w5.cell? ⟨N1, j, none⟩ = some (.int .u64 (((Tbl.upd t E (hh1, p) j).1 : Nat) : Int)) := fun j hj => by rw [← ht']; exact hI1.cell j hj
        have hnew2 : ∀ j, j < n → w5.cell? ⟨N2, j, none⟩ = some (.int .i64 (Tbl.upd t E (hh1, p) j).2) := fun j hj => by rw [← ht']; exact hI2.cell j hj
        have HC1 : Hid (∀ j, j < n → w5.cell? ⟨b, off + j, none⟩ = some (.int .u64 (((t j).1 : Nat) : Int))) := hc1
        have HC2 : Hid (∀ j, j < n → w5.cell? ⟨b', off' + j, none⟩ = some (.int .i64 (t j).2)) := hc2
        have HN1 : Hid (∀ j, j < n → w5.cell? ⟨N1, j, none⟩ = some (.int .u64 (((Tbl.upd t E (hh1, p) j).1 : Nat) : Int))) := hnew1
        have HN2 : Hid (∀ j, j < n → w5.cell? ⟨N2, j, none⟩ = some (.int .i64 (Tbl.upd t E (hh1, p) j).2)) := hnew2
        have HEM : Hid ((t E).1 = 0) := hemp
        clear HIN hroom hh5 hp5 hc1 hc2 hnew1 hnew2 hI1 hI2 HF1 HV1 HV0 HF0 hN1 hN2 hN1' hN2' ht' hemp hX1 hX2 hb2
        go_wp2_with fail
        go_loopw [23, 24] (fun em i wr => (∃ q, wr = w5.drewN q) ∧ ∃ k : Nat, k ≤ n ∧ i = .int .i64 k ∧ em = .int .i64 (if E < k then (E : Int) else -1)) (fun _ i _ => n - (intOf i).toNat)
        case atStart => exact ⟨⟨0, rfl⟩, 0, Nat.zero_le _, rfl, by rw [if_neg (Nat.not_lt_zero E)]⟩
        case round =>
          obtain ⟨⟨q, rfl⟩, k, hk, rfl, rfl⟩ := hrel
          by_cases hlt : k < n
          · have hlt' : (k : Int) < (n : Int) := by omega
            have c1 : (w5.drewN q).cell? ⟨b, off + k, none⟩ = some (.int .u64 (((t k).1 : Nat) : Int)) := HC1.out k hlt
            have c2 : (w5.drewN q).cell? ⟨b', off' + k, none⟩ = some (.int .i64 (t k).2) := HC2.out k hlt
            have c3 : (w5.drewN q).cell? ⟨N1, k, none⟩ = some (.int .u64 (((Tbl.upd t E (hh1, p) k).1 : Nat) : Int)) := HN1.out k hlt
            have c4 : (w5.drewN q).cell? ⟨N2, k, none⟩ = some (.int .i64 (Tbl.upd t E (hh1, p) k).2) := HN2.out k hlt
            generalize hW : w5.drewN q = W at c1 c2 c3 c4 ⊢
            have HW : Hid (w5.drewN q = W) := hW
            clear hW
            by_cases hkE : k = E
            · subst hkE
              rw [Tbl.upd_same] at c3 c4
              rw [HEM.out] at c1
              rw [if_neg (Nat.lt_irrefl k)]
              have hne : ((hh1 : Int) == 0) = false := by rw [beq_eq_false_iff_ne]; omega
              have hne2 : ((hh1 : Int) != 0) = true := by rw [bne, hne]; rfl
              go_wp2_with fail
              go_quiet (fail)
              go_wp2_with fail
              go_roundw
              case rel => exact ⟨⟨q + nq, by rw [← HW.out, World.drewN_drewN]⟩, k + 1, by omega, by go_num, by rw [if_pos (Nat.lt_succ_self k)]⟩
              case measure => simp [intOf]; omega
            · rw [Tbl.upd_other _ _ _ hkE] at c3 c4
              have HE2 : Hid ((if E < k + 1 then (E : Int) else -1) = (if E < k then (E : Int) else -1)) := by
                show _ = _
                by_cases h1 : E < k
                · rw [if_pos h1, if_pos (by omega)]
                · rw [if_neg h1, if_neg (by omega)]
              generalize (if E < k then (E : Int) else -1) = EM at HE2 ⊢
              clear hkE
              go_wp2_with fail
              go_quiet (fail)
              go_wp2_with fail
              go_roundw
              case rel => exact ⟨⟨q + nq, by rw [← HW.out, World.drewN_drewN]⟩, k + 1, by omega, by go_num, by rw [HE2.out]⟩
              case measure => simp [intOf]; omega
          · have ek : n = k := by omega
            subst ek
            rw [if_pos hE]
            have hE' : (E : Int) < (n : Int) := by omega
            have c1 : (w5.drewN q).cell? ⟨b, off + E, none⟩ = some (.int .u64 0) := by have := HC1.out E hE; rw [HEM.out] at this; exact this
            have c3 : (w5.drewN q).cell? ⟨N1, E, none⟩ = some (.int .u64 (hh1 : Int)) := by have := HN1.out E hE; rw [Tbl.upd_same] at this; exact this
            have c4 : (w5.drewN q).cell? ⟨N2, E, none⟩ = some (.int .i64 p) := by have := HN2.out E hE; rw [Tbl.upd_same] at this; exact this
            have hneg : decide ((E : Int) < 0) = false := decide_eq_false (by omega)
            generalize hW : w5.drewN q = W at c1 c3 c4 ⊢
            have HW : Hid (w5.drewN q = W) := hW
            clear hW
            go_wp2_with fail
            clear c1 c3 c4 hneg eD eH
            go_loop [27] (fun i => ∃ k : Nat, k ≤ d ∧ i = .int .i64 k) (fun i => d - (intOf i).toNat)
            case atStart => exact ⟨0, Nat.zero_le _, rfl⟩
            case round =>
              obtain ⟨k, hkd, rfl⟩ := hrel
              by_cases hlt2 : k < d
              · obtain ⟨hJ, eJ⟩ := HJ.out k
                have hz := HP.out k hlt2
                have hcJ : W.cell? ⟨b, off + (Tbl.home n hh1 + k) % n, none⟩ = some (.int .u64 (((t ((Tbl.home n hh1 + k) % n)).1 : Nat) : Int)) := by rw [← HW.out]; exact HC1.out _ hJ
                generalize (Tbl.home n hh1 + k) % n = J at hJ eJ hz hcJ
                have hJ' : (J : Int) < (n : Int) := by omega
                have hz' : ((((t J).1 : Nat) : Int) == 0) = false := by rw [beq_eq_false_iff_ne]; omega
                clear hz
                go_wp2_with fail
                go_round
                case rel => exact ⟨k + 1, by omega, by go_num⟩
                case measure => simp [intOf]; omega
              · go_wp2_with fail
                go_ret
                exact ⟨rfl, by rw [← HW.out]; exact below_drewN hbw5 q⟩
      · have hroom' : ¬ 4 * ((c : Int) + 1) ≤ 3 * (n : Int) := by omega
        obtain ⟨hgr, hlist⟩ : n' = grown n ∧ (Tbl.items t' n').Perm (Tbl.items t n ++ [(hh1, p)]) := by
          rcases HIN.out with ⟨hbad, _⟩ | ⟨_, e, t1, _, h2, h3⟩
          · omega
          · exact ⟨e, ((h3.items hodd.out).trans (h2.cons _)).trans (List.perm_append_singleton _ _).symm⟩
        have hcnt' : Tbl.cnt t' n' = c + 1 := by
          rcases HV1.out with ⟨_, e⟩ | ⟨_, _, e, _⟩ <;> omega
        have hcnt : Tbl.cnt t n = c := by
          rcases HV0.out with ⟨e1, e⟩ | ⟨_, _, e, _⟩
          · subst e1; show 0 = c; omega
          · omega
        have HL : Hid ((Tbl.items t' n').Perm (Tbl.items t n ++ [(hh1, p)])) := hlist
        have hne : (((n' : Nat) : Int) == ((grown n : Nat) : Int)) = true := by rw [hgr]; exact beq_self_eq_true _
        have HGR : Hid (n' = grown n) := hgr
        have hlt1 : hh1 < 18446744073709551616 := by
          have hmem : (hh1, p) ∈ Tbl.items t' n' := hlist.symm.subset (List.mem_append_right _ (List.mem_singleton.2 rfl))
          have hq : ∀ k, (hh1, p) ∈ Tbl.items t' k → hh1 < 18446744073709551616 := by
            intro k
            induction k with
            | zero => intro h; simp [Tbl.items] at h
            | succ k ih =>
              intro h
              rw [Tbl.items, List.mem_append] at h
              rcases h with h | h
              · exact ih h
              · split at h
                · simp at h
                · have := HF1.out k
                  rw [← List.mem_singleton.1 h] at this
                  exact this
          exact hq n' hmem
        have HLT : Hid (hh1 < 18446744073709551616) := hlt1
        clear hgr hlist hlt1 HIN hroom
        go_wp2_with fail
        refine (grownLen_any n w5 (by omega)).mono ?_
        rintro e w' ⟨rfl, hw'⟩
        have hw'' := hw'.symm
        clear hw'
        subst hw''
        go_wp2_with fail
        have hHR := Ints.hrow hI1 hN1'
        have hPR := Ints.prow hI2 hN2'
        have hbox : ∀ Y : World, (Y.alloc (.cells #[.int .u64 ((hh1 : Nat) : Int), .int .i64 p] 37)).cell? ⟨Y.heap.size, 0, none⟩ = some (.int .u64 ((hh1 : Nat) : Int)) ∧ (Y.alloc (.cells #[.int .u64 ((hh1 : Nat) : Int), .int .i64 p] 37)).cell? ⟨Y.heap.size, 1, none⟩ = some (.int .i64 p) := fun Y => ⟨by rw [World.cell?_alloc_at (hn := rfl)]; rfl, by rw [World.cell?_alloc_at (hn := rfl)]; rfl⟩
        by_cases hn0 : n = 0
        · have HL2 : Hid ((Tbl.items t' n').Perm [(hh1, p)]) := by
            have hq := HL.out
            rw [hn0] at hq
            exact hq
          have hc0 : 0 = c := by rw [hn0] at hcnt; exact hcnt
          subst hn0
          subst hc0
          refine (items_zero a1 a2 cap1 cap2 w5).mono ?_
          rintro e w6 ⟨rfl, hw6⟩
          have hg6 : (w6.alloc (.cells #[.int .u64 ((hh1 : Nat) : Int), .int .i64 p] 37)).heap[w5.heap.size]? = some (.cells #[] 37 (0, 0)) := by
            rw [Below.heap_alloc _ _ _ (by rw [hw6, World.size_alloc]; omega), hw6]
            show (w5.heap.push _)[w5.heap.size]? = _
            simp
          have hb6 : Below w5.heap.size w5 (w6.alloc (.cells #[.int .u64 ((hh1 : Nat) : Int), .int .i64 p] 37)) := by
            rw [hw6]; exact ((Below.refl _ _).alloc (Nat.le_refl _) _).alloc (by simp) _
          clear hw6 hn hcnt
          go_wp2_with (at_builtin; refine wpList_append_first _ rfl _ _ rfl w5.heap.size w6.heap.size (hh1, p) HLT.out rfl rfl hg6 (hbox w6).1 (hbox w6).2 ?_; intro g2 cap2 w7 hcap1 hcap2 hRd hb7)
          have hb57 : Below w5.heap.size w5 w7 := hb6.trans hb7
          refine (items_any (some ⟨N1, 0, none⟩) (some ⟨N2, 0, none⟩) n' n' n' t' w7 (by omega) (hHR.below hb57) (hPR.below hb57) HF1.out).mono ?_
          rintro e w8 ⟨g3, f3, rfl, hg3, hg3', hT3, hl3, hb8⟩
          rw [hcnt'] at hl3 ⊢
          go_wp2_with fail
          refine (same_any g3 0 n' g2 0 _ 1 f3 (fun _ => (hh1, p)) w8 (by omega) (by rcases HV1.out with ⟨_, e⟩ | ⟨e, _⟩; (· omega); (· have := e.1; omega)) (by omega) hcap1 hcap2 (hT3.rd hg3' 1 (by rcases HV1.out with ⟨_, e⟩ | ⟨e, _⟩; (· omega); (· have := e.1; omega))) (hRd.below hb8) (by show (Srt.lst f3 (0 + 1)).Perm _; rw [hl3]; exact HL2.out)).mono ?_
          rintro e w9 ⟨rfl, hb9⟩
          go_wp2_with fail
          go_ret
          exact ⟨rfl, ((hbw5.trans (hb57.mono hbw5.size)).trans (hb8.mono (Nat.le_trans hbw5.size hb57.size))).trans (hb9.mono (Nat.le_trans hbw5.size (Nat.le_trans hb57.size hb8.size)))⟩
        · have h16 : 16 ≤ n ∧ 4 * c ≤ 3 * n := by
            rcases HV0.out with ⟨e, _⟩ | ⟨e, _, _, e2⟩
            · omega
            · have := e.1; omega
          have h16' : 16 ≤ n' := by
            rcases HV1.out with ⟨_, e⟩ | ⟨e, _⟩
            · omega
            · exact e.1
          obtain ⟨h16a, h16b⟩ := h16
          refine (items_any a1 a2 n cap1 cap2 t w5 (by omega) hh5 hp5 HF0.out).mono ?_
          rintro e w6 ⟨g, f, rfl, hg, hg', hT, hl, hb6⟩
          rw [hcnt] at hl ⊢
          have HO := (hT.below (B := w6.heap.size) ((Below.refl _ _).alloc (Nat.le_refl _) (.cells #[.int .u64 ((hh1 : Nat) : Int), .int .i64 p] 37)) hg')
          have HT7 := HO.put (J := c) (by omega) (hh1, p) HLT.out
          have hb7 : Below w5.heap.size w5 (put (w6.alloc (.cells #[.int .u64 ((hh1 : Nat) : Int), .int .i64 p] 37)) g c (hh1, p)) := put_below (hb6.alloc hb6.size _) hg _ _
          have hz7 : g < (put (w6.alloc (.cells #[.int .u64 ((hh1 : Nat) : Int), .int .i64 p] 37)) g c (hh1, p)).heap.size := by rw [put_size, World.size_alloc]; omega
          have HL7 : Hid (Srt.lst (Tbl.upd f c (hh1, p)) (c + 1) = Tbl.items t n ++ [(hh1, p)]) := by show _ = _; rw [Srt.lst_upd, hl]
          clear hT hcnt hl
          have HCN : Hid (Tbl.cnt t' n' = c + 1) := hcnt'
          have hcn' : c + 1 ≤ n' := by have := Tbl.cnt_le t' n'; omega
          clear hcnt'
          go_wp2_with (at_builtin; refine wpList_append_pair _ rfl _ _ rfl g c n w6.heap.size (hh1, p) f rfl rfl HO (by omega) (hbox w6).1 (hbox w6).2 ?_)
          generalize put (w6.alloc (.cells #[.int .u64 ((hh1 : Nat) : Int), .int .i64 p] 37)) g c (hh1, p) = w7 at HT7 hb7 hz7 ⊢
          refine (items_any (some ⟨N1, 0, none⟩) (some ⟨N2, 0, none⟩) n' n' n' t' w7 (by omega) (hHR.below hb7) (hPR.below hb7) HF1.out).mono ?_
          rintro e w8 ⟨g3, f3, rfl, hg3, hg3', hT3, hl3, hb8⟩
          rw [HCN.out] at hl3 ⊢
          go_wp2_with fail
          refine (same_any g3 0 n' g 0 n (c + 1) f3 (Tbl.upd f c (hh1, p)) w8 (by omega) (by omega) (by omega) (by omega) (by omega) (hT3.rd hg3' (c + 1) (by omega)) ((HT7.below hb8 hz7).rd (Nat.lt_of_lt_of_le hz7 hb8.size) (c + 1) (by omega)) (by rw [hl3, HL7.out]; exact HL.out)).mono ?_
          rintro e w9 ⟨rfl, hb9⟩
          go_wp2_with fail
          go_ret
          exact ⟨rfl, ((hbw5.trans (hb7.mono hbw5.size)).trans (hb8.mono (Nat.le_trans hbw5.size hb7.size))).trans (hb9.mono (Nat.le_trans hbw5.size (Nat.le_trans hb7.size hb8.size)))⟩

/-- the law's walk, whatever the arguments -/
theorem exact_any (a a' : Option Addr) (n cap m cap' : Nat) (c tch h p : Int) (t : Nat → Nat × Int) (w : World) (hn : n ≤ 9223372036854775807) (hm : m ≤ 9223372036854775807)
    (hh : HRow w a n (fun j => (t j).1)) (hp : PRow w a' m (fun j => (t j).2)) (hf : ∀ j, (t j).1 < 18446744073709551616) (h0 : 0 ≤ h) (h1 : h < 18446744073709551616) :
    Calls Try.prog 3 #[.slice a n cap, .slice a' m cap', .int .i64 c, .int .u64 tch, .int .u64 h, .int .i64 p] w fun e w' => e = .returned (.bool true) ∧ Below w.heap.size w w' := by
  by_cases hl : 1048576 < n + m ∨ 65536 < n ∨ 65536 < m
  · exact exact_long a a' n cap m cap' c tch h p w hn hm hl
  · by_cases hv : m = n ∧ Tbl.Valid n t c
    · obtain ⟨rfl, hv⟩ := hv
      have hc0 : 0 ≤ c := by
        rcases hv with ⟨_, e⟩ | ⟨_, _, e, _⟩ <;> omega
      obtain ⟨c', rfl⟩ := Int.eq_ofNat_of_zero_le hc0
      obtain ⟨h', rfl⟩ := Int.eq_ofNat_of_zero_le h0
      obtain ⟨e1, e2, _⟩ := or1 h' (by omega)
      exact exact_main a a' m cap cap' c' h' (h' ||| 1) tch p t w (by omega) hh hp hf hv (by omega) e1 rfl e2
    · exact exact_bad a a' n cap m cap' c tch h p t w (by omega) (by omega) hh hp hf hv

end Go.Proofs.Qxb6602356a
