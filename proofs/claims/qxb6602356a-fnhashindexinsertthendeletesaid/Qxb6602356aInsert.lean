/-
  THE WALK OF Insert WHERE THE TABLE GROWS; Insert WHOLE.
-/
import Derived.Test.Qxb6602356aGrow
namespace Go.Proofs.Qxb6602356a
open Go.RowKit

/-- what Insert leaves where the table has grown to m slots, holding the items L first -/
def Grew (B X m c hh1 : Nat) (p tch : Int) (L : List (Nat × Int)) (w w' : World) : Prop :=
  ∃ S t1 t', X < S ∧ Tbl.Ok m t1 ∧ (Tbl.items t1 m).Perm L ∧ Tbl.Ins m t1 hh1 p t' ∧ Idx w' X (some ⟨S, 0, none⟩) m (c + 1) tch ∧ Tab w' S m t' ∧ Below B w w' ∧ S < w'.heap.size

set_option maxHeartbeats 1000000 in
theorem insert_grow (B X n m c h hh1 : Nat) (a : Option Addr) (p tch : Int) (L : List (Nat × Int)) (w : World) (hp : Tbl.Pow m) (hn : m ≤ 1048576) (hor : bits .or .u64 (h : Int) 1 = ((hh1 : Nat) : Int)) (hlt : hh1 < 18446744073709551616)
    (hX : Idx w X a n c tch) (hBX : B ≤ X) (hXw : X < w.heap.size) (hlen : L.length = c) (hc2 : c < m) (hroom : 3 * n < 4 * (c + 1)) (hn2 : n ≤ 1048576)
    (HG : ∀ q, Calls Try.prog 25 #[.pointer (some ⟨X, 0, none⟩)] (w.drewN q) fun e w' => e = .returned (.tuple #[]) ∧
      ∃ N t1, Idx w' X (some ⟨N, 0, none⟩) m c tch ∧ Tab w' N m t1 ∧ Tbl.Ok m t1 ∧ (Tbl.items t1 m).Perm L ∧ Below B w w' ∧ w.heap.size ≤ N ∧ N < w'.heap.size) :
    Calls Try.prog 11 #[.pointer (some ⟨X, 0, none⟩), .int .u64 (h : Int), .int .i64 p] w fun e w' => e = .returned (.tuple #[]) ∧ Grew B X m c hh1 p tch L w w' := by
  have h16 := hp.1
  have h0 := hX.sl
  have h1 := hX.ct
  have hle : (3 * (n : Int)) < 4 * ((c : Int) + 1) := by omega
  go_enter Try.func11, Try.ntmps11
  go_wp2_with fail
  go_quiet (fail)
  go_wp2_with fail
  refine (HG _).mono ?_
  rintro e W ⟨rfl, S, t1, hX2, hT2, hok1, hper1, hb, hSl, hsz⟩
  clear hX h0 h1 HG
  have hXS2 : X < S := by omega
  have hXS : X ≠ S := by omega
  have hBS : B ≤ S := by omega
  have h0 := hX2.sl
  have h1 := hX2.ct
  have hcnt : Tbl.cnt t1 m < m := by rw [← Tbl.items_length, hper1.length_eq, hlen]; exact hc2
  obtain ⟨D, hD, hDe⟩ := Tbl.dist_empty (t := t1) (n := m) hcnt (Tbl.home m hh1) (Tbl.home_lt (by omega) _)
  clear hcnt hlen
  go_wp2_with fail
  refine (home_any X m m hh1 _ W hp hn hlt h0).mono ?_
  rintro e w' ⟨rfl, hw'⟩
  have hw'' := hw'.symm
  clear hw'
  subst hw''
  have HD : Hid ((t1 ((Tbl.home m hh1 + D) % m)).1 = 0) := hDe
  clear hDe hor
  go_wp2_with fail
  go_loopg [6] D (fun k i wr => wr = W ∧ ∃ d, d + k = D ∧ i = .int .i64 (((Tbl.home m hh1 + d) % m : Nat) : Int) ∧ ∀ d', d' < d → (t1 ((Tbl.home m hh1 + d') % m)).1 ≠ 0)
  case atStart => exact ⟨rfl, 0, by omega, by rw [Nat.add_zero, Nat.mod_eq_of_lt (Tbl.home_lt (by omega) _)], fun d' hd' => absurd hd' (Nat.not_lt_zero d')⟩
  case round =>
    obtain ⟨rfl, d, hd, rfl, hpath⟩ := hrel
    have HP : Hid (∀ d', d' < d → (t1 ((Tbl.home m hh1 + d') % m)).1 ≠ 0) := hpath
    clear hpath
    have hJlt : (Tbl.home m hh1 + d) % m < m := Nat.mod_lt _ (by omega)
    have HN : Hid ((Tbl.home m hh1 + (d + 1)) % m = ((Tbl.home m hh1 + d) % m + 1) % m) := by
      show _ = _
      rw [Nat.mod_add_mod, Nat.add_assoc]
    generalize hJ : (Tbl.home m hh1 + d) % m = J at hJlt HN ⊢
    have HJ : Hid ((Tbl.home m hh1 + d) % m = J) := hJ
    clear hJ
    have hJ' : (J : Int) < (m : Int) := by omega
    have hch := hT2.hash J hJlt
    by_cases hz : (t1 J).1 = 0
    · have hIns : Tbl.Ins m t1 hh1 p (Tbl.upd t1 J (hh1, p)) := by
        rw [← HJ.out] at hz ⊢
        exact ⟨d, by omega, HP.out, hz, rfl⟩
      have HI : Hid (Tbl.Ins m t1 hh1 p (Tbl.upd t1 J (hh1, p))) := hIns
      clear hIns
      rw [hz] at hch
      have hcp := hT2.place J hJlt
      have hfh := hT2.fh J hJlt
      have hfp := hT2.fp J hJlt
      have hX3 := hX2.put (S := S) hXS J (hh1, p)
      have hT3 := hT2.put hJlt (hh1, p) hlt
      have hb3 := put_below hb hBS J (hh1, p)
      have hs3 : S < (put wr S J (hh1, p)).heap.size := by rw [put_size]; exact hsz
      have g1 := hX3.ct
      have g2 := hX3.f1
      have hX4 := hX3.count (c + 1)
      have hT4 := hT3.other (o := 1) hXS (.int .i64 ((c + 1 : Nat) : Int))
      have hb4 := hb3.setCell (p := ⟨X, 1, none⟩) hBX (.int .i64 ((c + 1 : Nat) : Int))
      have hs4 : S < ((put wr S J (hh1, p)).setCell ⟨X, 1, none⟩ (.int .i64 ((c + 1 : Nat) : Int))).heap.size := by simpa [World.setCell] using hs3
      have HF : Hid (Grew B X m c hh1 p tch L w ((put wr S J (hh1, p)).setCell ⟨X, 1, none⟩ (.int .i64 ((c + 1 : Nat) : Int)))) := ⟨S, t1, _, hXS2, hok1, hper1, HI.out, hX4, hT4, hb4, hs4⟩
      clear hX4 hT4 hb4 hs4 hX3 hT3 hb3 hs3 hX2 hT2 hb hsz
      unfold put at g1 g2
      go_wp2_with fail
      go_end0
      exact ⟨rfl, HF.out⟩
    · have hz' : ((((t1 J).1 : Nat) : Int) == 0) = false := by rw [beq_eq_false_iff_ne]; omega
      have hne : gk ≠ 0 := fun e => by
        have hdD : d = D := by omega
        have h1 := HD.out
        rw [← hdD, HJ.out] at h1
        exact hz h1
      have HQ : Hid (∀ d', d' < d + 1 → (t1 ((Tbl.home m hh1 + d') % m)).1 ≠ 0) := fun d' hd' => by
        by_cases e : d' = d
        · subst e; rw [HJ.out]; exact hz
        · exact HP.out d' (by omega)
      go_wp2_with fail
      refine (next_any X m m J _ wr hp hn hJlt h0).mono ?_
      rintro e w' ⟨rfl, hw'⟩
      have hw'' := hw'.symm
      clear hw'
      subst hw''
      go_wp2_with fail
      go_roundg (gk - 1)
      case measure => omega
      case rel => exact ⟨rfl, d + 1, by omega, by rw [HN.out]; simp, HQ.out⟩

/-- how many slots a table of n slots grows to -/
def grown (n : Nat) : Nat := if 2 * n < 16 then 16 else 2 * n

/-- an Index at block X in a valid state: n slots t, c items -/
def St (w : World) (X n : Nat) (t : Nat → Nat × Int) (c : Nat) (tch : Int) : Prop :=
  X < w.heap.size ∧ ((n = 0 ∧ c = 0 ∧ ∃ a, Idx w X a 0 0 tch) ∨
    (Tbl.Pow n ∧ Tbl.Ok n t ∧ Tbl.cnt t n = c ∧ 4 * c ≤ 3 * n ∧ ∃ S, X < S ∧ S < w.heap.size ∧ Idx w X (some ⟨S, 0, none⟩) n c tch ∧ Tab w S n t))

/-- what Insert does to the table -/
def InsR (n : Nat) (t : Nat → Nat × Int) (c hh : Nat) (p : Int) (n' : Nat) (t' : Nat → Nat × Int) : Prop :=
  (4 * (c + 1) ≤ 3 * n ∧ n' = n ∧ Tbl.Ins n t hh p t') ∨
  (3 * n < 4 * (c + 1) ∧ n' = grown n ∧ ∃ t1, Tbl.Ok n' t1 ∧ (Tbl.items t1 n').Perm (Tbl.items t n) ∧ Tbl.Ins n' t1 hh p t')

theorem Idx.drewN {w : World} {X : Nat} {a : Option Addr} {n c : Nat} {tch : Int} (h : Idx w X a n c tch) (q : Nat) : Idx (w.drewN q) X a n c tch := ⟨h.sl, h.ct, h.tc, h.f0, h.f1⟩
theorem Tab.drewN {w : World} {S n : Nat} {t : Nat → Nat × Int} (h : Tab w S n t) (q : Nat) : Tab (w.drewN q) S n t := ⟨h.hash, h.place, h.fh, h.fp, h.fits⟩

/-- Insert, whole -/
theorem insert_st (X n c h : Nat) (p tch : Int) (t : Nat → Nat × Int) (w : World) (hn : n ≤ 131072) (hh : h < 18446744073709551616) (hst : St w X n t c tch) :
    Calls Try.prog 11 #[.pointer (some ⟨X, 0, none⟩), .int .u64 (h : Int), .int .i64 p] w fun e w' => e = .returned (.tuple #[]) ∧
      ∃ n' t', InsR n t c (h ||| 1) p n' t' ∧ St w' X n' t' (c + 1) tch ∧ Below X w w' := by
  obtain ⟨hor, hodd, hlt⟩ := or1 h hh
  obtain ⟨hXw, hst⟩ := hst
  rcases hst with ⟨rfl, rfl, a, hX⟩ | ⟨hp, hok, hcnt, hload, S, hXS, hSw, hX, hT⟩
  · refine (insert_grow X X 0 16 0 h (h ||| 1) a p tch [] w Tbl.pow16 (by omega) hor hlt hX (Nat.le_refl _) hXw rfl (by omega) (by omega) (by omega) (fun q => ?_)).mono ?_
    · refine (grow_zero X X 0 a tch (w.drewN q) (hX.drewN q) (Nat.le_refl _) hXw).mono ?_
      rintro e w' ⟨he, g1, g2, g3, g4⟩
      exact ⟨he, w.heap.size, Tbl.none, g1, g2, Tbl.ok_none _, by rw [Tbl.items_none _ _ (fun _ _ => rfl)], (below_drewN (Below.refl _ _) q).trans g3, Nat.le_refl _, g4⟩
    · rintro e w' ⟨he, S, t1, t', hXS, hok1, hper, hins, hX', hT', hb, hS⟩
      refine ⟨he, 16, t', .inr ⟨by omega, rfl, t1, hok1, hper, hins⟩, ⟨by omega, .inr ⟨Tbl.pow16, hins.ok hok1 hodd, ?_, by omega, S, hXS, hS, hX', hT'⟩⟩, hb⟩
      rw [hins.cnt hodd, ← Tbl.items_length, hper.length_eq, List.length_nil]
  · have h16 := hp.1
    by_cases hroom : 4 * (c + 1) ≤ 3 * n
    · refine (insert_room X X S n c h (h ||| 1) p tch t w hp (by omega) hor hlt hX hT (by omega) (Nat.le_refl _) (by omega) hcnt hroom).mono ?_
      rintro e w' ⟨he, t', hins, hX', hT', hb, hsz⟩
      exact ⟨he, n, t', .inl ⟨hroom, rfl, hins⟩, ⟨by omega, .inr ⟨hp, hins.ok hok hodd, by rw [hins.cnt hodd, hcnt], hroom, S, hXS, by omega, hX', hT'⟩⟩, hb⟩
    · refine (insert_grow X X n (2 * n) c h (h ||| 1) _ p tch (Tbl.items t n) w hp.twice (by omega) hor hlt hX (Nat.le_refl _) hXw (by rw [Tbl.items_length, hcnt]) (by omega) (by omega) (by omega) (fun q => ?_)).mono ?_
      · refine (grow_more X X S n c t tch (w.drewN q) hp hn (hX.drewN q) (hT.drewN q) hok (by omega) (Nat.le_refl _) hXw hSw).mono ?_
        rintro e w' ⟨he, t1, g1, g2, g3, g4, g5, g6⟩
        exact ⟨he, w.heap.size, t1, g1, g2, g3, g4, (below_drewN (Below.refl _ _) q).trans g5, Nat.le_refl _, g6⟩
      · rintro e w' ⟨he, S', t1, t', hXS', hok1, hper, hins, hX', hT', hb, hS'⟩
        refine ⟨he, 2 * n, t', .inr ⟨by omega, by unfold grown; rw [if_neg (by omega)], t1, hok1, hper, hins⟩, ⟨by omega, .inr ⟨hp.twice, hins.ok hok1 hodd, ?_, by omega, S', hXS', hS', hX', hT'⟩⟩, hb⟩
        rw [hins.cnt hodd, ← Tbl.items_length, hper.length_eq, Tbl.items_length, hcnt]

end Go.Proofs.Qxb6602356a
