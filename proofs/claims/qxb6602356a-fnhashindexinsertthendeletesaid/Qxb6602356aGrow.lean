/-
  THE WALK OF grow.
-/
import Derived.Test.Qxb6602356aIndex
namespace Go.Proofs.Qxb6602356a
open Go.RowKit

theorem Try.info52 : (Try.prog.info? 52).map (fun i => (i.zero, i.size, i.bytes)) = some (some (.agg #[.int .u64 0, .int .i64 0]), 2, 16) := by kernel_rfl
theorem Try.info37 : (Try.prog.info? 37).map (fun i => (i.zero, i.size, i.bytes)) = some (some (.agg #[.int .u64 0, .int .i64 0]), 2, 16) := by kernel_rfl

/-- 'make([]T, n)', T of two cells -/
theorem make_pairs (T E : TypeId) (ht : Try.prog.underlying T = some (.slice E)) (hinfo : (Try.prog.info? E).map (fun i => (i.zero, i.size, i.bytes)) = some (some (.agg #[.int .u64 0, .int .i64 0]), 2, 16)) (n : Nat) (hn : n ≤ 1048576) (w : World) :
    (Instr.makeSlice T (.int .i64 (n : Int)) (.int .i64 (n : Int))).run Try.prog w = .ok (.slice (some ⟨w.heap.size, 0, none⟩) n n) (w.alloc (.cells (madeCells #[.int .u64 0, .int .i64 0] (n * 2)) E)) := by
  obtain ⟨i, hi, hzz⟩ := Option.map_eq_some_iff.1 hinfo
  simp only [Prod.mk.injEq] at hzz
  obtain ⟨hz, hs, hb⟩ := hzz
  have h := run_make (P := Try.prog) w T E i (.agg #[.int .u64 0, .int .i64 0]) ht hi hz .i64 .i64 n n (by omega) (Int.le_refl _) (by rw [hb]; omega) (by omega)
  rw [hs, Int.toNat_natCast] at h
  exact h

theorem made_pair (n j : Nat) (hj : j < n) : (madeCells #[.int .u64 0, .int .i64 0] (n * 2))[j * 2]? = some (.int .u64 0) ∧ (madeCells #[.int .u64 0, .int .i64 0] (n * 2))[j * 2 + 1]? = some (.int .i64 0) := by
  constructor
  · simp [madeCells, show j * 2 < n * 2 by omega]
  · simp [madeCells, show j * 2 + 1 < n * 2 by omega, Nat.add_mod]

/-- a table new made -/
theorem tab_made (w : World) (E : TypeId) (n : Nat) : Tab (w.alloc (.cells (madeCells #[.int .u64 0, .int .i64 0] (n * 2)) E)) w.heap.size n Tbl.none :=
  ⟨fun j hj => by rw [World.cell?_alloc_at (hn := rfl)]; exact (made_pair n j hj).1, fun j hj => by rw [World.cell?_alloc_at (hn := rfl)]; exact (made_pair n j hj).2,
   fun j _ => World.frozen?_alloc_at _ _ _ _ rfl, fun j _ => World.frozen?_alloc_at _ _ _ _ rfl, fun _ => by show 0 < _; omega⟩

theorem Idx.drew {w : World} {X : Nat} {a : Option Addr} {n c : Nat} {tch : Int} (h : Idx w X a n c tch) : Idx w.drew X a n c tch := ⟨h.sl, h.ct, h.tc, h.f0, h.f1⟩
theorem Tab.drew {w : World} {S n : Nat} {t : Nat → Nat × Int} (h : Tab w S n t) : Tab w.drew S n t := ⟨h.hash, h.place, h.fh, h.fp, h.fits⟩

theorem Tab.put2 {w : World} {S n : Nat} {t : Nat → Nat × Int} (h : Tab w S n t) {N : Nat} (hne : S ≠ N) (J : Nat) (v : Nat × Int) : Tab (Qxb6602356a.put w N J v) S n t :=
  ⟨fun j hj => by rw [put_cell _ _ (by exact hne)]; exact h.hash j hj, fun j hj => by rw [put_cell _ _ (by exact hne)]; exact h.place j hj, fun j hj => by rw [put_frozen]; exact h.fh j hj, fun j hj => by rw [put_frozen]; exact h.fp j hj, h.fits⟩

/-- the new table hung into the index -/
theorem Idx.slots {w : World} {X : Nat} {a : Option Addr} {n c : Nat} {tch : Int} (h : Idx w X a n c tch) (a' : Option Addr) (m : Nat) : Idx (w.setCell ⟨X, 0, none⟩ (.slice a' m m)) X a' m c tch :=
  ⟨World.cell?_setCell_same _ _ _ h.sl, by rw [World.cell?_setCell_other _ _ _ _ (by simp)]; exact h.ct, by rw [World.cell?_setCell_other _ _ _ _ (by simp)]; exact h.tc, by rw [World.frozen?_setCell]; exact h.f0, by rw [World.frozen?_setCell]; exact h.f1⟩

theorem Idx.below {w w' : World} {X B : Nat} {a : Option Addr} {n c : Nat} {tch : Int} (h : Idx w X a n c tch) (hb : Below B w w') (hX : X < B) : Idx w' X a n c tch :=
  ⟨by rw [hb.cell (p := ⟨X, 0, none⟩) hX]; exact h.sl, by rw [hb.cell (p := ⟨X, 1, none⟩) hX]; exact h.ct, by rw [hb.cell (p := ⟨X, 2, none⟩) hX]; exact h.tc, by rw [hb.frozen (p := ⟨X, 0, none⟩) hX]; exact h.f0, by rw [hb.frozen (p := ⟨X, 1, none⟩) hX]; exact h.f1⟩

theorem Tab.below {w w' : World} {S B n : Nat} {t : Nat → Nat × Int} (h : Tab w S n t) (hb : Below B w w') (hS : S < B) : Tab w' S n t :=
  ⟨fun j hj => by rw [hb.cell (p := ⟨S, j * 2, none⟩) hS]; exact h.hash j hj, fun j hj => by rw [hb.cell (p := ⟨S, j * 2 + 1, none⟩) hS]; exact h.place j hj, fun j hj => by rw [hb.frozen (p := ⟨S, j * 2, none⟩) hS]; exact h.fh j hj, fun j hj => by rw [hb.frozen (p := ⟨S, j * 2 + 1, none⟩) hS]; exact h.fp j hj, h.fits⟩

/-- what grow's first two statements lay -/
def hung (w : World) (X m k : Nat) : World := (w.setCell ⟨X, 0, none⟩ (.slice (some ⟨w.heap.size, 0, none⟩) m m)).alloc (.cells (madeCells #[.int .u64 0, .int .i64 0] k) 52)

theorem hung_eq (w : World) (X m k : Nat) (hXw : X < w.heap.size) : hung w X m k = (w.alloc (.cells (madeCells #[.int .u64 0, .int .i64 0] k) 52)).setCell ⟨X, 0, none⟩ (.slice (some ⟨w.heap.size, 0, none⟩) m m) :=
  (World.setCell_alloc_past _ X 0 _ hXw).symm

theorem hung_facts {w : World} {B X n m c : Nat} {a : Option Addr} {tch : Int} (hX : Idx w X a n c tch) (hBX : B ≤ X) (hXw : X < w.heap.size) :
    Idx (hung w X m (m * 2)) X (some ⟨w.heap.size, 0, none⟩) m c tch ∧ Tab (hung w X m (m * 2)) w.heap.size m Tbl.none ∧ Below B w (hung w X m (m * 2)) ∧ (hung w X m (m * 2)).heap.size = w.heap.size + 1 := by
  rw [hung_eq _ _ _ _ hXw]
  have hb : Below w.heap.size w (w.alloc (.cells (madeCells #[.int .u64 0, .int .i64 0] (m * 2)) 52)) := (Below.refl _ _).alloc (Nat.le_refl _) _
  have h1 := hX.below hb hXw
  refine ⟨h1.slots _ m, (tab_made w 52 m).other (by omega) _, (hb.mono (by omega)).setCell hBX _, by simp [World.setCell]⟩

theorem hung_old {w : World} {X m S n : Nat} {t : Nat → Nat × Int} (hT : Tab w S n t) (hS : S < w.heap.size) (hXw : X < w.heap.size) (hXS : X ≠ S) : Tab (hung w X m (m * 2)) S n t := by
  rw [hung_eq _ _ _ _ hXw]
  exact (hT.below ((Below.refl _ _).alloc (Nat.le_refl _) _) hS).other hXS _

set_option maxHeartbeats 400000 in
theorem grow_zero (B X c : Nat) (a : Option Addr) (tch : Int) (w : World)
    (hX : Idx w X a 0 c tch) (hBX : B ≤ X) (hXw : X < w.heap.size) :
    Calls Try.prog 25 #[.pointer (some ⟨X, 0, none⟩)] w fun e w' => e = .returned (.tuple #[]) ∧
      Idx w' X (some ⟨w.heap.size, 0, none⟩) 16 c tch ∧ Tab w' w.heap.size 16 Tbl.none ∧ Below B w w' ∧ w.heap.size < w'.heap.size := by
  have h0 := hX.sl
  have hmk : ∀ w : World, (Instr.makeSlice 46 (.int .i64 16) (.int .i64 16)).run Try.prog w = .ok (.slice (some ⟨w.heap.size, 0, none⟩) 16 16) (w.alloc (.cells (madeCells #[.int .u64 0, .int .i64 0] (16 * 2)) 52)) := make_pairs 46 52 Try.underlying46 Try.info52 16 (by omega)
  have hf := hX.f0
  obtain ⟨g1, g2, g3, g4⟩ := hung_facts (m := 16) hX hBX hXw
  have HF : Hid (Idx (hung w X 16 32) X (some ⟨w.heap.size, 0, none⟩) 16 c tch ∧ Tab (hung w X 16 32) w.heap.size 16 Tbl.none ∧ Below B w (hung w X 16 32) ∧ w.heap.size < (hung w X 16 32).heap.size) := ⟨g1, g2, g3, by show _ < (hung w X 16 (16 * 2)).heap.size; omega⟩
  clear g1 g2 g3 g4 hX
  go_enter Try.func25, Try.ntmps25
  go_wp2_with fail
  unfold hung at HF
  generalize (w.setCell ⟨X, 0, none⟩ (.slice (some ⟨w.heap.size, 0, none⟩) 16 16)).alloc (.cells (madeCells #[.int .u64 0, .int .i64 0] 32) 52) = W at HF ⊢
  go_loop [20] (fun i => i = .int .i64 0) (fun _ => 0)
  case atStart => rfl
  case round =>
    obtain rfl := hrel
    go_wp2_with fail
    go_end0
    exact ⟨rfl, HF.out⟩

set_option maxHeartbeats 1000000 in
theorem grow_core (B X S n m N c : Nat) (t : Nat → Nat × Int) (tch : Int) (w W0 : World) (hp2 : Tbl.Pow m) (hnm : n < m) (hm : m ≤ 262144) (hn : n ≤ 131072) (h16 : 16 ≤ n)
    (h0 : w.cell? ⟨X, 0, none⟩ = some (.slice (some ⟨S, 0, none⟩) n n))
    (hmk : (Instr.makeSlice 46 (.int .i64 (2 * (n : Int))) (.int .i64 (2 * (n : Int)))).run Try.prog w = .ok (.slice (some ⟨N, 0, none⟩) m m) W0)
    (c0 : W0.cell? ⟨X, 0, none⟩ = some (.slice (some ⟨S, 0, none⟩) n n)) (f0 : W0.frozen? ⟨X, 0, none⟩ = false)
    (_hXS : X ≠ S) (hBX : B ≤ X) (hXw : X < N) (hSw : S < N)
    (hall : Hid (Idx (W0.setCell ⟨X, 0, none⟩ (.slice (some ⟨N, 0, none⟩) m m)) X (some ⟨N, 0, none⟩) m c tch ∧ Tab (W0.setCell ⟨X, 0, none⟩ (.slice (some ⟨N, 0, none⟩) m m)) N m Tbl.none ∧
      Tab (W0.setCell ⟨X, 0, none⟩ (.slice (some ⟨N, 0, none⟩) m m)) S n t ∧ Below B w (W0.setCell ⟨X, 0, none⟩ (.slice (some ⟨N, 0, none⟩) m m)) ∧ N < (W0.setCell ⟨X, 0, none⟩ (.slice (some ⟨N, 0, none⟩) m m)).heap.size)) (hok : Tbl.Ok n t) :
    Calls Try.prog 25 #[.pointer (some ⟨X, 0, none⟩)] w fun e w' => e = .returned (.tuple #[]) ∧
      ∃ t', Idx w' X (some ⟨N, 0, none⟩) m c tch ∧ Tab w' N m t' ∧ Tbl.Ok m t' ∧ (Tbl.items t' m).Perm (Tbl.items t n) ∧ Below B w w' ∧ N < w'.heap.size := by
  have hle : ¬ (2 * (n : Int)) < 16 := by omega
  go_enter Try.func25, Try.ntmps25
  go_wp2_with fail
  generalize W0.setCell ⟨X, 0, none⟩ (.slice (some ⟨N, 0, none⟩) m m) = W at hall ⊢
  clear hmk hle h0 c0 f0
  go_loopw [20] (fun i wr => ∃ k : Nat, k ≤ n ∧ i = .int .i64 k ∧ ∃ t', Idx wr X (some ⟨N, 0, none⟩) m c tch ∧ Tab wr N m t' ∧ Tbl.Ok m t' ∧ (Tbl.items t' m).Perm (Tbl.items t k) ∧ Tab wr S n t ∧ Below B w wr ∧ N < wr.heap.size) (fun i _ => n - (intOf i).toNat)
  case atStart =>
    obtain ⟨g1, g2, g3, g4, g5⟩ := hall.out
    exact ⟨0, Nat.zero_le _, rfl, Tbl.none, g1, g2, Tbl.ok_none _, by rw [Tbl.items_none _ _ (fun _ _ => rfl)]; exact List.Perm.refl _, g3, g4, g5⟩
  case round =>
    clear hall
    obtain ⟨k, hk, rfl, t', hX, hT, hok', hperm, hS, hb, hsz⟩ := hrel
    by_cases hlt : k < n
    · have c1 := hS.hash k hlt
      have c2 := hS.place k hlt
      have hba : Below wr.heap.size wr (wr.alloc (.cells #[.int .u64 (((t k).1 : Nat) : Int), .int .i64 (t k).2] 52)) := (Below.refl _ _).alloc (Nat.le_refl _) _
      have hX1 := hX.below hba (by omega)
      have hT1 := hT.below hba hsz
      have hS1 := hS.below hba (by omega)
      have hb1 : Below B w (wr.alloc (.cells #[.int .u64 (((t k).1 : Nat) : Int), .int .i64 (t k).2] 52)) := hb.alloc (by omega) _
      have hsz1 : N < (wr.alloc (.cells #[.int .u64 (((t k).1 : Nat) : Int), .int .i64 (t k).2] 52)).heap.size := by simp; omega
      have b1 : (wr.alloc (.cells #[.int .u64 (((t k).1 : Nat) : Int), .int .i64 (t k).2] 52)).cell? ⟨wr.heap.size, 0, none⟩ = some (.int .u64 (((t k).1 : Nat) : Int)) := by rw [World.cell?_alloc_at (hn := rfl)]; rfl
      have b2 : (wr.alloc (.cells #[.int .u64 (((t k).1 : Nat) : Int), .int .i64 (t k).2] 52)).cell? ⟨wr.heap.size, 1, none⟩ = some (.int .i64 (t k).2) := by rw [World.cell?_alloc_at (hn := rfl)]; rfl
      clear hba hX hT hS hb
      by_cases hz : (t k).1 = 0
      · have hz' : ((((t k).1 : Nat) : Int) == 0) = true := by rw [hz]; rfl
        have hperm1 : (Tbl.items t' m).Perm (Tbl.items t (k + 1)) := by rw [Tbl.items, if_pos hz, List.append_nil]; exact hperm
        clear hz
        go_wp2_with fail
        go_roundw
        case rel => exact ⟨k + 1, by omega, by go_num, t', hX1, hT1, hok', hperm1, hS1, hb1, hsz1⟩
        case measure => simp [intOf]; omega
      · have hz' : ((((t k).1 : Nat) : Int) == 0) = false := by rw [beq_eq_false_iff_ne]; omega
        have hfit := hS1.fits k
        go_wp2_with fail
        refine (home_any X m m (t k).1 _ _ hp2 (by omega) hfit hX1.sl).mono ?_
        rintro e w' ⟨rfl, hw'⟩
        have hw'' := hw'.symm
        clear hw'
        subst hw''
        have hN1 : N < wr.heap.size := hsz
        generalize wr.heap.size = R at hN1 b1 b2 ⊢
        generalize wr.alloc (.cells #[.int .u64 (((t k).1 : Nat) : Int), .int .i64 (t k).2] 52) = V at hX1 hT1 hS1 hb1 hsz1 b1 b2 ⊢
        have hcnt : Tbl.cnt t' m < m := by
          rw [← Tbl.items_length, hperm.length_eq, Tbl.items_length]
          have := Tbl.cnt_le t k
          omega
        obtain ⟨D, hD, hDe⟩ := Tbl.dist_empty hcnt (Tbl.home m (t k).1) (Tbl.home_lt (by omega) _)
        have HD : Hid ((t' ((Tbl.home m (t k).1 + D) % m)).1 = 0) := hDe
        have HC : Hid (Tbl.cnt t' m < m) := hcnt
        clear hDe hcnt
        have hodd := hok.odd k hlt hz
        have Hodd : Hid ((t k).1 % 2 = 1) := hodd
        have HZ : Hid ((t k).1 ≠ 0) := hz
        clear hodd hz hz' c1 c2
        go_wp2_with fail
        go_loopg [5] D (fun g i wr => wr = V ∧ ∃ d, d + g = D ∧ i = .int .i64 (((Tbl.home m (t k).1 + d) % m : Nat) : Int) ∧ ∀ d', d' < d → (t' ((Tbl.home m (t k).1 + d') % m)).1 ≠ 0)
        case atStart => exact ⟨rfl, 0, by omega, by rw [Nat.add_zero, Nat.mod_eq_of_lt (Tbl.home_lt (by omega) _)], fun d' hd' => absurd hd' (Nat.not_lt_zero d')⟩
        case round =>
          obtain ⟨rfl, d, hd, rfl, hpath⟩ := hrel
          have HP : Hid (∀ d', d' < d → (t' ((Tbl.home m (t k).1 + d') % m)).1 ≠ 0) := hpath
          clear hpath
          have hJlt : (Tbl.home m (t k).1 + d) % m < m := Nat.mod_lt _ (by omega)
          have HN : Hid ((Tbl.home m (t k).1 + (d + 1)) % m = ((Tbl.home m (t k).1 + d) % m + 1) % m) := by
            show _ = _
            rw [Nat.mod_add_mod, Nat.add_assoc]
          generalize hJ : (Tbl.home m (t k).1 + d) % m = J at hJlt HN ⊢
          have HJ : Hid ((Tbl.home m (t k).1 + d) % m = J) := hJ
          clear hJ
          have hJ' : (J : Int) < (m : Int) := by omega
          have h0 := hX1.sl
          have hch := hT1.hash J hJlt
          by_cases hz : (t' J).1 = 0
          · have HI : Hid (Tbl.Ins m t' (t k).1 (t k).2 (Tbl.upd t' J (t k))) := by
              show Tbl.Ins _ _ _ _ _
              rw [← HJ.out] at hz ⊢
              exact ⟨d, by omega, HP.out, hz, rfl⟩
            rw [hz] at hch
            have hcp := hT1.place J hJlt
            have hfh := hT1.fh J hJlt
            have hfp := hT1.fp J hJlt
            clear hz
            have HF : Hid (∃ t2, Idx (put wr N J (t k)) X (some ⟨N, 0, none⟩) m c tch ∧ Tab (put wr N J (t k)) N m t2 ∧ Tbl.Ok m t2 ∧ (Tbl.items t2 m).Perm (Tbl.items t (k + 1)) ∧ Tab (put wr N J (t k)) S n t ∧ Below B w (put wr N J (t k)) ∧ N < (put wr N J (t k)).heap.size) := by
              refine ⟨_, hX1.put (by omega) J _, hT1.put hJlt _ hfit, HI.out.ok hok' Hodd.out, ?_, hS1.put2 (by omega) _ _, put_below hb1 (by omega) J _, by rw [put_size]; exact hsz1⟩
              rw [Tbl.items, if_neg HZ.out]
              exact ((HI.out.items Hodd.out).trans (hperm.cons _)).trans (List.perm_append_singleton _ _).symm
            clear HI hX1 hT1 hS1 hb1
            unfold put at HF
            go_wp2_with fail
            go_region
            go_wp2_with fail
            obtain ⟨t2, f1, f2, f3, f4, f5, f6, f7⟩ := HF.out
            go_roundw
            case rel => exact ⟨k + 1, by omega, by go_num, t2, f1.drew, f2.drew, f3, f4, f5.drew, f6.drew, f7⟩
            case measure => simp [intOf]; omega
          · have hz' : ((((t' J).1 : Nat) : Int) == 0) = false := by rw [beq_eq_false_iff_ne]; omega
            have hne : gk ≠ 0 := fun e => by
              have hdD : d = D := by omega
              have h1 := HD.out
              rw [← hdD, HJ.out] at h1
              exact hz h1
            have HQ : Hid (∀ d', d' < d + 1 → (t' ((Tbl.home m (t k).1 + d') % m)).1 ≠ 0) := fun d' hd' => by
              by_cases e : d' = d
              · subst e; rw [HJ.out]; exact hz
              · exact HP.out d' (by omega)
            go_wp2_with fail
            refine (next_any X m m J _ _ hp2 (by omega) hJlt h0).mono ?_
            rintro e w' ⟨rfl, hw'⟩
            have hw'' := hw'.symm
            clear hw'
            subst hw''
            go_wp2_with fail
            go_roundg (gk - 1)
            case measure => omega
            case rel => exact ⟨rfl, d + 1, by omega, by rw [HN.out]; simp, HQ.out⟩
    · have e : k = n := by omega
      subst e
      go_wp2_with fail
      go_end0
      exact ⟨rfl, t', hX, hT, hok', hperm, hb, hsz⟩

/-- grow of a table of n slots -/
theorem grow_more (B X S n c : Nat) (t : Nat → Nat × Int) (tch : Int) (w : World) (hp : Tbl.Pow n) (hn : n ≤ 131072)
    (hX : Idx w X (some ⟨S, 0, none⟩) n c tch) (hT : Tab w S n t) (hok : Tbl.Ok n t) (hXS : X ≠ S) (hBX : B ≤ X) (hXw : X < w.heap.size) (hSw : S < w.heap.size) :
    Calls Try.prog 25 #[.pointer (some ⟨X, 0, none⟩)] w fun e w' => e = .returned (.tuple #[]) ∧
      ∃ t', Idx w' X (some ⟨w.heap.size, 0, none⟩) (2 * n) c tch ∧ Tab w' w.heap.size (2 * n) t' ∧ Tbl.Ok (2 * n) t' ∧ (Tbl.items t' (2 * n)).Perm (Tbl.items t n) ∧ Below B w w' ∧ w.heap.size < w'.heap.size := by
  have h16 := hp.1
  have hmk := make_pairs 46 52 Try.underlying46 Try.info52 (2 * n) (by omega) w
  rw [show ((2 * n : Nat) : Int) = 2 * (n : Int) by omega] at hmk
  have hb : Below w.heap.size w (w.alloc (.cells (madeCells #[.int .u64 0, .int .i64 0] (2 * n * 2)) 52)) := (Below.refl _ _).alloc (Nat.le_refl _) _
  have hX1 := hX.below hb hXw
  have hT1 := hT.below hb hSw
  exact grow_core B X S n (2 * n) w.heap.size c t tch w _ hp.twice (by omega) (by omega) hn h16 hX.sl hmk hX1.sl hX1.f0 hXS hBX hXw hSw
    ⟨hX1.slots _ _, (tab_made w 52 (2 * n)).other (by omega) _, hT1.other hXS _, (hb.mono (by omega)).setCell hBX _, by simp [World.setCell]⟩ hok

end Go.Proofs.Qxb6602356a
