/-
  THE WALK OF FnHashindexInsertAllDeleteAll.
-/
import Derived.Test.Qxb6602356aCopies
import Derived.Test.Qxb6602356aMulti
import Derived.Test.Qxb6602356aDelete
import Derived.Deep.RegionWith
namespace Go.Proofs.Qxb6602356a
open Go.RowKit

/-! ### plain -/

/-- m is the fewest slots that hold k items at no more than three quarters full -/
def Loaded (k m : Nat) : Prop := (k = 0 ∧ m = 0) ∨ (0 < k ∧ Tbl.Pow m ∧ 4 * k ≤ 3 * m ∧ (m = 16 ∨ 3 * (m / 2) < 4 * k))

theorem pow_double {l m : Nat} (hl : Tbl.Pow l) (hm : Tbl.Pow m) (h : l < m) : 2 * l ≤ m := by
  obtain ⟨_, a, rfl⟩ := hl
  obtain ⟨_, b, rfl⟩ := hm
  have hab : a < b := (Nat.pow_lt_pow_iff_right (by omega)).1 h
  have h2 : 2 ^ (a + 1) ≤ 2 ^ b := Nat.pow_le_pow_right (by omega) hab
  rw [Nat.pow_succ] at h2
  omega

theorem Loaded.next {k m m' : Nat} {t t' : Nat → Nat × Int} {hh : Nat} {p : Int} (h : Loaded k m) (hi : InsR m t k hh p m' t') : Loaded (k + 1) m' := by
  rcases hi with ⟨h1, rfl, _⟩ | ⟨h1, rfl, _⟩
  · rcases h with ⟨_, rfl⟩ | ⟨_, hp, _, h3⟩
    · omega
    · exact .inr ⟨by omega, hp, h1, by omega⟩
  · rcases h with ⟨rfl, rfl⟩ | ⟨_, hp, h2, h3⟩
    · exact .inr ⟨by omega, Tbl.pow16, by show 4 * 1 ≤ 3 * 16; omega, .inl rfl⟩
    · have h16 := hp.1
      have e : grown m = 2 * m := by unfold grown; rw [if_neg (by omega)]
      rw [e]
      exact .inr ⟨by omega, hp.twice, by omega, .inr (by omega)⟩

theorem Loaded.small {k m : Nat} (h : Loaded k m) (hk : k ≤ 65536) : m ≤ 131072 := by
  rcases h with ⟨_, rfl⟩ | ⟨_, hp, _, h3⟩
  · omega
  · obtain ⟨_, a, rfl⟩ := hp
    rcases h3 with h3 | h3
    · omega
    · apply Classical.byContradiction
      intro c
      have h17 : 2 ^ 17 < 2 ^ a := by omega
      have ha : 17 < a := (Nat.pow_lt_pow_iff_right (by omega)).1 h17
      have : 2 ^ 18 ≤ 2 ^ a := Nat.pow_le_pow_right (by omega) ha
      omega

/-- the item as the index holds it -/
def odd1 (x : Nat × Int) : Nat × Int := (x.1 ||| 1, x.2)

theorem mem_items {t : Nat → Nat × Int} {v : Nat × Int} : ∀ n, v ∈ Tbl.items t n → ∃ s, s < n ∧ t s = v
  | 0, h => absurd h (by simp [Tbl.items])
  | n + 1, h => by
    rw [Tbl.items, List.mem_append] at h
    rcases h with h | h
    · obtain ⟨s, hs, e⟩ := mem_items n h
      exact ⟨s, by omega, e⟩
    · split at h
      · simp at h
      · exact ⟨n, by omega, (List.mem_singleton.1 h).symm⟩

/-- what is left behind the first k -/
def rest (g : Nat → Nat × Int) (N k : Nat) : List (Nat × Int) := Srt.lst (fun j => g (k + j)) (N - k)

theorem rest_zero (g : Nat → Nat × Int) (N : Nat) : rest g N 0 = Srt.lst g N := by
  unfold rest
  rw [Nat.sub_zero]
  exact Srt.lst_congr N (fun j _ => by rw [Nat.zero_add])

theorem rest_cons (g : Nat → Nat × Int) {N k : Nat} (h : k < N) : rest g N k = g k :: rest g N (k + 1) := by
  unfold rest
  have e := Srt.lst_add (fun j => g (k + j)) 1 (N - (k + 1))
  rw [show 1 + (N - (k + 1)) = N - k by omega] at e
  rw [e]
  show Srt.lst (fun j => g (k + j)) (0 + 1) ++ _ = _
  rw [Srt.lst, Srt.lst, List.nil_append, List.singleton_append]
  rw [Nat.add_zero, Srt.lst_congr (N - (k + 1)) (fun j _ => by rw [show k + (1 + j) = k + 1 + j by omega])]

theorem rest_end (g : Nat → Nat × Int) (N : Nat) : rest g N N = [] := by
  unfold rest
  rw [Nat.sub_self]; rfl

theorem St.below {w w' : World} {X n c : Nat} {tch : Int} {t : Nat → Nat × Int} (h : St w X n t c tch) (hb : Below w.heap.size w w') : St w' X n t c tch := by
  have hs := hb.size
  refine ⟨by have := h.1; omega, ?_⟩
  rcases h.2 with ⟨h1, h2, a, h3⟩ | ⟨hp, hok, hc, hl, S, hXS, hSw, hX, hT⟩
  · exact .inl ⟨h1, h2, a, h3.below hb h.1⟩
  · exact .inr ⟨hp, hok, hc, hl, S, hXS, by omega, hX.below hb h.1, hT.below hb hSw⟩

theorem St.drew {w : World} {X n c : Nat} {tch : Int} {t : Nat → Nat × Int} (h : St w X n t c tch) : St w.drew X n t c tch := h.below ⟨rfl, rfl, rfl, Nat.le_refl _, fun _ _ => rfl⟩

theorem St.fitted {w : World} {X n c : Nat} {tch : Int} {t : Nat → Nat × Int} (h : St w X n t c tch) : ∃ t2, St w X n t2 c tch ∧ (∀ j, (t2 j).1 < 18446744073709551616) ∧ Tbl.items t2 n = Tbl.items t n := by
  rcases h.2 with ⟨rfl, h2, a, h3⟩ | ⟨_, _, _, _, _, _, _, _, hT⟩
  · exact ⟨Tbl.none, ⟨h.1, .inl ⟨rfl, h2, a, h3⟩⟩, fun _ => by show 0 < _; omega, rfl⟩
  · exact ⟨t, h, hT.fits, rfl⟩

/-! ### walks -/

set_option maxHeartbeats 400000 in
theorem loadedLen_any (k m : Nat) (w : World) (hk : k ≤ 65536) (hl : Loaded k m) :
    Calls Try.prog 24 #[.int .i64 (k : Int)] w fun e w' => e = .returned (.int .i64 (m : Int)) ∧ w' = w := by
  have hm := hl.small hk
  rcases hl with ⟨rfl, rfl⟩ | ⟨h0, hp, h1, h2⟩
  · go_enter Try.func24, Try.ntmps24
    go_wp2
    go_ret
    exact ⟨rfl, rfl⟩
  · have hne : ((k : Int) == 0) = false := by rw [beq_eq_false_iff_ne]; omega
    have h16 := hp.1
    go_enter Try.func24, Try.ntmps24
    go_wp2
    go_loop [3] (fun x => ∃ l : Nat, x = .int .i64 l ∧ Tbl.Pow l ∧ l ≤ m) (fun x => m - (intOf x).toNat)
    case atStart => exact ⟨16, rfl, Tbl.pow16, h16⟩
    case round =>
      obtain ⟨l, rfl, hpl, hlm⟩ := hrel
      have hl16 := hpl.1
      by_cases hc : 4 * k ≤ 3 * l
      · have e : m = l := by
          apply Classical.byContradiction
          intro c
          have := pow_double hpl hp (by omega)
          omega
        subst e
        have hc' : ¬ 3 * (m : Int) < 4 * (k : Int) := by omega
        go_wp2
        go_ret
        exact ⟨rfl, rfl⟩
      · have hlt : l < m := by
          apply Classical.byContradiction
          intro c
          have e : l = m := by omega
          subst e
          exact hc h1
        have h2l := pow_double hpl hp hlt
        have hp2 := hpl.twice
        have hc' : 3 * (l : Int) < 4 * (k : Int) := by omega
        go_wp2
        go_round
        case rel => exact ⟨2 * l, by go_num, hp2, h2l⟩
        case measure => simp [intOf]; omega

set_option maxHeartbeats 400000 in
theorem bytes23_any (a : Option Addr) (n cap : Nat) (w : World) (hn : n ≤ 9223372036854775807) :
    Calls Try.prog 23 #[.slice a n cap] w fun e w' => e = .returned (.bool (decide (n ≤ 1048576))) ∧ w' = w := by
  by_cases h : n ≤ 1048576
  · have h1 : ¬ (1048576 : Int) < (n : Int) := by omega
    rw [decide_eq_true h]
    go_enter Try.func23, Try.ntmps23
    go_wp2
    go_ret
    exact ⟨rfl, rfl⟩
  · have h1 : (1048576 : Int) < (n : Int) := by omega
    rw [decide_eq_false h]
    go_enter Try.func23, Try.ntmps23
    go_wp2
    go_ret
    exact ⟨rfl, rfl⟩

set_option maxHeartbeats 400000 in
set_option maxRecDepth 100000 in
theorem all_long (a : Option Addr) (n cap : Nat) (w : World) (hn : n ≤ 9223372036854775807) (h : 65536 < n) :
    Calls Try.prog 7 #[.slice a n cap] w fun e w' => e = .returned (.bool true) ∧ Below w.heap.size w w' := by
  have h1 : (65536 : Int) < (n : Int) := by omega
  by_cases h2 : n ≤ 1048576
  · go_enter Try.func7, Try.ntmps7
    go_wp2_with (go_at_call 23; refine (bytes23_any a n cap _ hn).mono ?_; rw [decide_eq_true h2]; rintro e w' ⟨rfl, rfl⟩)
    go_ret
    exact ⟨rfl, Below.refl _ _⟩
  · go_enter Try.func7, Try.ntmps7
    go_wp2_with (go_at_call 23; refine (bytes23_any a n cap _ hn).mono ?_; rw [decide_eq_false h2]; rintro e w' ⟨rfl, rfl⟩)
    go_ret
    exact ⟨rfl, Below.refl _ _⟩

/-- the items that came in: nil, or n pairs -/
def ItemsIn (w : World) (a : Option Addr) (n : Nat) (f : Nat → Nat × Int) : Prop :=
  (∀ j, (f j).1 < 18446744073709551616) ∧ (0 < n → ∃ b off, a = some ⟨b, off, none⟩ ∧ b < w.heap.size ∧ (∀ j, j < n → w.cell? ⟨b, off + j * 2, none⟩ = some (.int .u64 (((f j).1 : Nat) : Int))) ∧ ∀ j, j < n → w.cell? ⟨b, off + j * 2 + 1, none⟩ = some (.int .i64 (f j).2))

set_option maxHeartbeats 2000000 in
set_option maxRecDepth 100000 in
theorem all_short (a : Option Addr) (n cap : Nat) (f : Nat → Nat × Int) (w : World) (hn : n ≤ 65536) (hin : ItemsIn w a n f) :
    Calls Try.prog 7 #[.slice a n cap] w fun e w' => e = .returned (.bool true) ∧ Below w.heap.size w w' := by
  have h1 : ¬ (65536 : Int) < (n : Int) := by omega
  obtain ⟨hfit, hin⟩ := hin
  have hX0 := idx_new w none 0 0 0
  have hb0 : Below w.heap.size w (w.alloc (.cells #[.slice none 0 0, .int .i64 ((0 : Nat) : Int), .int .u64 0] 48)) := (Below.refl _ _).alloc (Nat.le_refl _) _
  have hz0 : w.heap.size < (w.alloc (.cells #[.slice none 0 0, .int .i64 ((0 : Nat) : Int), .int .u64 0] 48)).heap.size := by simp
  have hst0 : St (w.alloc (.cells #[.slice none 0 0, .int .i64 ((0 : Nat) : Int), .int .u64 0] 48)) w.heap.size 0 Tbl.none 0 0 := ⟨hz0, .inl ⟨rfl, rfl, none, hX0⟩⟩
  clear hX0
  go_enter Try.func7, Try.ntmps7
  go_wp2_with (go_at_call 23; refine (bytes23_any a n cap _ (by omega)).mono ?_; rw [decide_eq_true (show n ≤ 1048576 by omega)]; rintro e w' ⟨rfl, hw'⟩; have hw'' := hw'.symm; clear hw'; subst hw'')
  have HIN : Hid (0 < n → ∃ b off, a = some ⟨b, off, none⟩ ∧ b < w.heap.size ∧ (∀ j, j < n → w.cell? ⟨b, off + j * 2, none⟩ = some (.int .u64 (((f j).1 : Nat) : Int))) ∧ ∀ j, j < n → w.cell? ⟨b, off + j * 2 + 1, none⟩ = some (.int .i64 (f j).2)) := hin
  have HFT : Hid (∀ j, (f j).1 < 18446744073709551616) := hfit
  clear hin hfit
  have hst0' : St (w.alloc (.cells #[.slice none 0 0, .int .i64 0, .int .u64 0] 48)) w.heap.size 0 Tbl.none 0 0 := hst0
  have hb0' : Below w.heap.size w (w.alloc (.cells #[.slice none 0 0, .int .i64 0, .int .u64 0] 48)) := hb0
  clear hst0 hb0 hz0
  generalize w.alloc (.cells #[.slice none 0 0, .int .i64 0, .int .u64 0] 48) = W at hst0' hb0' ⊢
  go_loopw [4] (fun i wr => ∃ k : Nat, k ≤ n ∧ i = .int .i64 k ∧ ∃ m t, St wr w.heap.size m t k 0 ∧ Loaded k m ∧ (Tbl.items t m).Perm (Srt.lst (fun j => odd1 (f j)) k) ∧ Below w.heap.size w wr) (fun i _ => n - (intOf i).toNat)
  case atStart => exact ⟨0, Nat.zero_le _, rfl, 0, Tbl.none, hst0', .inl ⟨rfl, rfl⟩, List.Perm.refl _, hb0'⟩
  case round =>
    clear hst0' hb0'
    obtain ⟨k, hk, rfl, m, t, hst, hload, hper, hb⟩ := hrel
    by_cases hlt : k < n
    · obtain ⟨b, off, rfl, hbw, c1, c2⟩ := HIN.out (by omega)
      have hlt' : (k : Int) < (n : Int) := by omega
      have k1 : wr.cell? ⟨b, off + k * 2, none⟩ = some (.int .u64 (((f k).1 : Nat) : Int)) := by rw [hb.cell (p := ⟨b, off + k * 2, none⟩) hbw]; exact c1 k hlt
      have k2 : wr.cell? ⟨b, off + k * 2 + 1, none⟩ = some (.int .i64 (f k).2) := by rw [hb.cell (p := ⟨b, off + k * 2 + 1, none⟩) hbw]; exact c2 k hlt
      have hms := hload.small (by omega)
      have hfk := HFT.out k
      have HSt : Hid (St wr w.heap.size m t k 0) := hst
      have HLd : Hid (Loaded k m) := hload
      have HPer : Hid ((Tbl.items t m).Perm (Srt.lst (fun j => odd1 (f j)) k)) := hper
      clear hst c1 c2 hload hper
      go_wp2_with fail
      go_region_with (go_at_call 11; refine (insert_st w.heap.size m k (f k).1 (f k).2 0 t _ hms hfk HSt.out.drew).mono ?_; rintro e w' ⟨rfl, m', t', hins, hst', hb'⟩)
      all_goals
        have hload' := HLd.out.next hins
        have hper' : (Tbl.items t' m').Perm (Srt.lst (fun j => odd1 (f j)) (k + 1)) := by
          have ho := (or1 _ hfk).2.1
          have hh : (Tbl.items t' m').Perm (odd1 (f k) :: Tbl.items t m) := by
            rcases hins with ⟨_, rfl, hi⟩ | ⟨_, _, t1, _, hp1, hi⟩
            · exact hi.items ho
            · exact (hi.items ho).trans (hp1.cons _)
          exact (hh.trans (HPer.out.cons _)).trans (List.perm_append_singleton _ _).symm
        have hbb : Below w.heap.size w w' := hb.drew.trans hb'
        clear hins hb'
        go_wp2_with fail
        go_roundw
        case rel => exact ⟨k + 1, by omega, by go_num, m', t', hst', hload', hper', hbb⟩
        case measure => simp [intOf]; omega
    · have e : n = k := by omega
      subst e
      have hms := hload.small (by omega)
      obtain ⟨t2, hst2, hft, hit⟩ := hst.fitted
      rw [← hit] at hper
      clear hst hit
      have hv := hst2.valid
      have hcnt : Tbl.cnt t2 m = n := by
        rcases hv with ⟨e, e2⟩ | ⟨_, _, e, _⟩
        · subst e; show 0 = n; omega
        · omega
      have HSt : Hid (St wr w.heap.size m t2 n 0) := hst2
      have HLd : Hid (Loaded n m) := hload
      have HPer : Hid ((Tbl.items t2 m).Perm (Srt.lst (fun j => odd1 (f j)) n)) := hper
      have HV : Hid (Tbl.Valid m t2 (n : Int)) := hv
      have HF2 : Hid (∀ j, (t2 j).1 < 18446744073709551616) := hft
      clear hst2 hload hper hv hft
      go_wp2_with fail
      refine (state_st w.heap.size m n 0 t2 wr (by omega) HSt.out).mono ?_
      rintro e w5 ⟨N1, N2, rfl, hN1, hN2, hN1', hN2', hI1, hI2, hb5⟩
      have HSt5 : Hid (St w5 w.heap.size m t2 n 0) := HSt.out.below hb5
      have hbw5 : Below w.heap.size w w5 := hb.trans (hb5.mono hb.size)
      have hHR := Ints.hrow hI1 hN1'
      have hPR := Ints.prow hI2 hN2'
      clear hI1 hI2 hb5 hN1 hN2 hb HSt
      go_wp2_with fail
      refine (valid_yes (some ⟨N1, 0, none⟩) (some ⟨N2, 0, none⟩) m m m (n : Int) t2 w5 (by omega) hHR hPR HF2.out HV.out).mono ?_
      rintro e w' ⟨rfl, hw'⟩
      have hw'' := hw'.symm
      clear hw'
      subst hw''
      go_wp2_with fail
      refine (loadedLen_any n m w5 (by omega) HLd.out).mono ?_
      rintro e w' ⟨rfl, hw'⟩
      have hw'' := hw'.symm
      clear hw'
      subst hw''
      have hmk := make_pairs 34 37 Try.underlying34 Try.info37 n (by omega) w5
      have HM := tab_made w5 37 n
      have HB : Below w5.heap.size w5 (w5.alloc (.cells (madeCells #[.int .u64 0, .int .i64 0] (n * 2)) 37)) := (Below.refl _ _).alloc (Nat.le_refl _) _
      have HZ : w5.heap.size < (w5.alloc (.cells (madeCells #[.int .u64 0, .int .i64 0] (n * 2)) 37)).heap.size := by simp
      generalize w5.alloc (.cells (madeCells #[.int .u64 0, .int .i64 0] (n * 2)) 37) = W6 at hmk HM HB HZ
      go_wp2_with fail
      clear hmk
      go_loopw [11] (fun i wr => ∃ k : Nat, k ≤ n ∧ i = .int .i64 k ∧ ∃ g, Tab wr w5.heap.size n g ∧ (∀ j, j < k → g j = odd1 (f j)) ∧ Below w5.heap.size w5 wr ∧ w5.heap.size < wr.heap.size) (fun i _ => n - (intOf i).toNat)
      case atStart => exact ⟨0, Nat.zero_le _, rfl, _, HM, fun j hj => absurd hj (Nat.not_lt_zero j), HB, HZ⟩
      case round =>
        clear HM HB HZ
        obtain ⟨k, hk2, rfl, g, hT, hge, hb, hz⟩ := hrel
        by_cases hlt2 : k < n
        · obtain ⟨b, off, rfl, hbw, c1, c2⟩ := HIN.out (by omega)
          have hlt' : (k : Int) < (n : Int) := by omega
          have hbw6 : Below w.heap.size w wr := hbw5.trans (hb.mono hbw5.size)
          have k1 : wr.cell? ⟨b, off + k * 2, none⟩ = some (.int .u64 (((f k).1 : Nat) : Int)) := by rw [hbw6.cell (p := ⟨b, off + k * 2, none⟩) hbw]; exact c1 k hlt2
          have k2 : wr.cell? ⟨b, off + k * 2 + 1, none⟩ = some (.int .i64 (f k).2) := by rw [hbw6.cell (p := ⟨b, off + k * 2 + 1, none⟩) hbw]; exact c2 k hlt2
          have hor := (or1 _ (HFT.out k)).1
          have d1 := hT.hash k hlt2
          have d2 := hT.place k hlt2
          have d3 := hT.fh k hlt2
          have d4 := hT.fp k hlt2
          have HF : Hid (∃ g, Tab (put wr w5.heap.size k (odd1 (f k))) w5.heap.size n g ∧ (∀ j, j < k + 1 → g j = odd1 (f j)) ∧ Below w5.heap.size w5 (put wr w5.heap.size k (odd1 (f k))) ∧ w5.heap.size < (put wr w5.heap.size k (odd1 (f k))).heap.size) := by
            refine ⟨_, hT.put hlt2 _ (or1 _ (HFT.out k)).2.2, fun j hj => ?_, put_below hb (Nat.le_refl _) _ _, by rw [put_size]; exact hz⟩
            by_cases e : j = k
            · subst e; rw [Tbl.upd_same]
            · rw [Tbl.upd_other _ _ _ e]; exact hge j (by omega)
          clear hT hge hb c1 c2 hbw6
          unfold put odd1 at HF
          go_wp2_with fail
          go_region
          all_goals
            go_wp2_with fail
            obtain ⟨g2, q1, q2, q3, q4⟩ := HF.out
            go_roundw
            case rel => exact ⟨k + 1, by omega, by go_num, g2, q1.drew, q2, q3.drew, q4⟩
            case measure => simp [intOf]; omega
        · have e : n = k := by omega
          subst e
          go_wp2_with fail
          refine (items_any (some ⟨N1, 0, none⟩) (some ⟨N2, 0, none⟩) m m m t2 wr (by omega) (hHR.below hb) (hPR.below hb) HF2.out).mono ?_
          rintro e w8 ⟨g3, f3, rfl, hg3, hg3', hT3, hl3, hb8⟩
          have hnm : n ≤ m := by have := Tbl.cnt_le t2 m; omega
          rw [hcnt] at hl3 ⊢
          have hT8 := hT.below hb8 hz
          have hz8 := Nat.lt_of_lt_of_le hz hb8.size
          have hlg : Srt.lst g n = Srt.lst (fun j => odd1 (f j)) n := Srt.lst_congr n hge
          have hb58 : Below w5.heap.size w5 w8 := hb.trans (hb8.mono hb.size)
          clear hT hge hb hz hcnt
          go_wp2_with fail
          refine (same_any g3 0 m w5.heap.size 0 n n f3 g w8 (by omega) hnm (by omega) (Nat.le_refl _) (by omega) (hT3.rd hg3' n hnm) (hT8.rd hz8 n (Nat.le_refl _)) (by rw [hl3, hlg]; exact HPer.out)).mono ?_
          rintro e w9 ⟨rfl, hb9⟩
          have hb59 : Below w5.heap.size w5 w9 := hb58.trans (hb9.mono hb58.size)
          have HSt9 : St w9 w.heap.size m t2 n 0 := HSt5.out.below hb59
          have hbw9 : Below w.heap.size w w9 := hbw5.trans (hb59.mono hbw5.size)
          have hper0 : (Tbl.items t2 m).Perm (rest (fun j => odd1 (f j)) n 0) := by rw [rest_zero]; exact HPer.out
          clear hT3 hl3 hb8 hT8 hz8 hlg hb58 hb9 hb59 HSt5 hbw5 hHR hPR
          go_wp2_with fail
          go_loopw [12] (fun i wr => ∃ k c : Nat, k + c = n ∧ i = .int .i64 k ∧ ∃ t, St wr w.heap.size m t c 0 ∧ (Tbl.items t m).Perm (rest (fun j => odd1 (f j)) n k) ∧ Below w.heap.size w wr) (fun i _ => n - (intOf i).toNat)
          case atStart => exact ⟨0, n, by omega, rfl, t2, HSt9, hper0, hbw9⟩
          case round =>
            clear HSt9 hper0 hbw9
            obtain ⟨k, c, hkc, rfl, t3, hst3, hper3, hbw3⟩ := hrel
            by_cases hlt3 : k < n
            · obtain ⟨b, off, rfl, hbw, c1, c2⟩ := HIN.out (by omega)
              have hlt' : (k : Int) < (n : Int) := by omega
              have k1 : wr.cell? ⟨b, off + k * 2, none⟩ = some (.int .u64 (((f k).1 : Nat) : Int)) := by rw [hbw3.cell (p := ⟨b, off + k * 2, none⟩) hbw]; exact c1 k hlt3
              have k2 : wr.cell? ⟨b, off + k * 2 + 1, none⟩ = some (.int .i64 (f k).2) := by rw [hbw3.cell (p := ⟨b, off + k * 2 + 1, none⟩) hbw]; exact c2 k hlt3
              have hfk := HFT.out k
              obtain ⟨c', rfl⟩ : ∃ c', c = c' + 1 := ⟨c - 1, by omega⟩
              rw [rest_cons _ hlt3] at hper3
              obtain ⟨s0, hs0, hs1⟩ := mem_items m (hper3.symm.subset (List.mem_cons_self))
              have HS1 : Hid (t3 s0 = ((f k).1 ||| 1, (f k).2)) := hs1
              have HSt : Hid (St wr w.heap.size m t3 (c' + 1) 0) := hst3
              have HP3 : Hid ((Tbl.items t3 m).Perm (odd1 (f k) :: rest (fun j => odd1 (f j)) n (k + 1))) := hper3
              have HKC : Hid (k + (c' + 1) = n) := hkc
              clear hst3 c1 c2 hper3 hs1 hkc
              go_wp2_with fail
              go_region_with (go_at_call 18; refine (delete_st w.heap.size m c' (f k).1 s0 (f k).2 0 t3 _ (by omega) hfk HSt.out.drew hs0 HS1.out).mono ?_; rintro e w' ⟨rfl, i0, T, hi0, hv0, hperT, hstill, hstT, hbT⟩)
              all_goals
                have hperN : (Tbl.items T m).Perm (rest (fun j => odd1 (f j)) n (k + 1)) := List.Perm.cons_inv (hperT.symm.trans HP3.out)
                have hbb : Below w.heap.size w w' := hbw3.drew.trans hbT
                have hkc' := HKC.out
                clear hstill hv0 hperT hbT
                go_wp2_with fail
                go_roundw
                case rel => exact ⟨k + 1, c', by omega, by go_num, T, hstT, hperN, hbb⟩
                case measure => simp [intOf]; omega
            · have e : k = n := by omega
              have ec : c = 0 := by omega
              subst ec
              rw [e, rest_end] at hper3
              have hnil := List.perm_nil.1 hper3
              have hall : ∀ j, j < m → (t3 j).1 = 0 ∧ (t3 j).2 = 0 := fun j hj => by
                have hz := Tbl.none_of_cnt t3 m (by rw [← Tbl.items_length, hnil]; rfl) j hj
                rcases hst3.valid with ⟨e, _⟩ | ⟨_, hok, _⟩
                · omega
                · exact ⟨hz, hok.zero j hj hz⟩
              have HSt : Hid (St wr w.heap.size m t3 0 0) := hst3
              have HAll : Hid (∀ j, j < m → (t3 j).1 = 0 ∧ (t3 j).2 = 0) := hall
              clear hper3 hnil hst3 hall hkc
              go_wp2_with fail
              refine (state_st w.heap.size m 0 0 t3 wr (by omega) HSt.out).mono ?_
              rintro e w10 ⟨M1, M2, rfl, hM1, hM2, hM1', hM2', hJ1, hJ2, hb10⟩
              have hbw10 : Below w.heap.size w w10 := hbw3.trans (hb10.mono hbw3.size)
              clear hb10
              go_wp2_with fail
              go_loop [17] (fun i => ∃ q : Nat, q ≤ m ∧ i = .int .i64 q) (fun i => m - (intOf i).toNat)
              case atStart => exact ⟨0, Nat.zero_le _, rfl⟩
              case round =>
                obtain ⟨q, hq, rfl⟩ := hrel
                by_cases hq2 : q < m
                · have hq' : (q : Int) < (m : Int) := by omega
                  have j1 := hJ1.cell q hq2
                  have j2 := hJ2.cell q hq2
                  simp only [(HAll.out q hq2).1, (HAll.out q hq2).2] at j1 j2
                  go_wp2_with fail
                  go_round
                  case rel => exact ⟨q + 1, by omega, by go_num⟩
                  case measure => simp [intOf]; omega
                · go_wp2_with fail
                  go_ret
                  exact ⟨rfl, hbw10⟩

end Go.Proofs.Qxb6602356a
