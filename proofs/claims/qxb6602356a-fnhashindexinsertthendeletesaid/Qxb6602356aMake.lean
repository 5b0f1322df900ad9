/-
  THE WALKS OF ZZStateB1 AND ZZMakeB1.
-/
import Derived.Test.Qxb6602356aInsert
import Derived.Test.Qxb6602356aValid
namespace Go.Proofs.Qxb6602356a
open Go.RowKit

theorem Try.info24 : (Try.prog.info? 24).map (fun i => (i.zero, i.size, i.bytes)) = some (some (.int .u64 0), 1, 8) := by kernel_rfl
theorem Try.info3 : (Try.prog.info? 3).map (fun i => (i.zero, i.size, i.bytes)) = some (some (.int .i64 0), 1, 8) := by kernel_rfl

/-- a row of numbers of the call's own -/
structure Ints (K : IntKind) (w : World) (b n : Nat) (f : Nat → Int) : Prop where
  cell : ∀ j, j < n → w.cell? ⟨b, j, none⟩ = some (.int K (f j))
  free : ∀ j, j < n → w.frozen? ⟨b, j, none⟩ = false

theorem Ints.below {K : IntKind} {w w' : World} {b n B : Nat} {f : Nat → Int} (h : Ints K w b n f) (hb : Below B w w') (hB : b < B) : Ints K w' b n f :=
  ⟨fun j hj => by rw [hb.cell (p := ⟨b, j, none⟩) hB]; exact h.cell j hj, fun j hj => by rw [hb.frozen (p := ⟨b, j, none⟩) hB]; exact h.free j hj⟩

theorem Ints.set {K : IntKind} {w : World} {b n : Nat} {f : Nat → Int} (h : Ints K w b n f) {k : Nat} (_hk : k < n) (v : Int) : Ints K (w.setCell ⟨b, k, none⟩ (.int K v)) b n (fun j => if j = k then v else f j) := by
  refine ⟨fun j hj => ?_, fun j hj => by rw [World.frozen?_setCell]; exact h.free j hj⟩
  by_cases e : k = j
  · subst e
    rw [World.cell?_setCell_same _ _ _ (h.cell k hj), if_pos rfl]
  · rw [World.cell?_setCell_other _ _ _ _ (by simp), if_neg (fun c => e c.symm)]
    exact h.cell j hj

theorem Ints.other {K : IntKind} {w : World} {b n : Nat} {f : Nat → Int} (h : Ints K w b n f) {X o : Nat} (hne : X ≠ b) (v : Value) : Ints K (w.setCell ⟨X, o, none⟩ v) b n f :=
  ⟨fun j hj => by rw [World.cell?_setCell_other _ _ _ _ (fun e => hne (by injection e))]; exact h.cell j hj, fun j hj => by rw [World.frozen?_setCell]; exact h.free j hj⟩

theorem ints_made (K : IntKind) (w : World) (E : TypeId) (n : Nat) : Ints K (w.alloc (.cells (madeCells #[.int K 0] n) E)) w.heap.size n (fun _ => 0) :=
  ⟨fun j hj => by rw [World.cell?_alloc_at (hn := rfl)]; simp [madeCells, hj, Nat.mod_one], fun j _ => World.frozen?_alloc_at _ _ _ _ rfl⟩

/-- the slots of an index can be read -/
def Slots (w : World) (a : Option Addr) (n : Nat) (t : Nat → Nat × Int) : Prop :=
  0 < n → ∃ S, a = some ⟨S, 0, none⟩ ∧ S < w.heap.size ∧ Tab w S n t

/-- what ZZState hands back -/
def States (w : World) (n c : Nat) (tch : Int) (t : Nat → Nat × Int) (e : Ending) (w' : World) : Prop :=
  ∃ N1 N2, e = .returned (.tuple #[.slice (some ⟨N1, 0, none⟩) n n, .slice (some ⟨N2, 0, none⟩) n n, .int .i64 (c : Int), .int .u64 tch]) ∧ w.heap.size ≤ N1 ∧ w.heap.size ≤ N2 ∧ N1 < w'.heap.size ∧ N2 < w'.heap.size ∧
    Ints .u64 w' N1 n (fun j => (((t j).1 : Nat) : Int)) ∧ Ints .i64 w' N2 n (fun j => (t j).2) ∧ Below w.heap.size w w'

set_option maxHeartbeats 1000000 in
theorem state_any (X n c : Nat) (a : Option Addr) (tch : Int) (t : Nat → Nat × Int) (w : World) (hn : n ≤ 1048576) (hXw : X < w.heap.size) (hX : Idx w X a n c tch) (hS : Slots w a n t) :
    Calls Try.prog 12 #[.pointer (some ⟨X, 0, none⟩)] w fun e w' => States w n c tch t e w' := by
  have hmk1 := run_make_row' (P := Try.prog) 22 24 (.int .u64 0) 8 Try.underlying22 Try.info24 rfl .i64 .i64 n (by omega) (by omega) w
  have hb1 : Below w.heap.size w (w.alloc (.cells (madeCells #[.int .u64 0] n) 24)) := (Below.refl _ _).alloc (Nat.le_refl _) _
  have hI1 := ints_made .u64 w 24 n
  have hz1 : (w.alloc (.cells (madeCells #[.int .u64 0] n) 24)).heap.size = w.heap.size + 1 := by simp
  generalize w.alloc (.cells (madeCells #[.int .u64 0] n) 24) = W1 at hmk1 hb1 hI1 hz1
  have hmk2 := run_make_row' (P := Try.prog) 23 3 (.int .i64 0) 8 Try.underlying23 Try.info3 rfl .i64 .i64 n (by omega) (by omega) W1
  have hb2 : Below W1.heap.size W1 (W1.alloc (.cells (madeCells #[.int .i64 0] n) 3)) := (Below.refl _ _).alloc (Nat.le_refl _) _
  have hI2 := ints_made .i64 W1 3 n
  have hz2 : (W1.alloc (.cells (madeCells #[.int .i64 0] n) 3)).heap.size = W1.heap.size + 1 := by simp
  generalize W1.alloc (.cells (madeCells #[.int .i64 0] n) 3) = W2 at hmk2 hb2 hI2 hz2
  have hI1' := hI1.below hb2 (by omega)
  have hbb : Below w.heap.size w W2 := hb1.trans (hb2.mono hb1.size)
  have x0 := hX.sl
  have x1 := (hX.below hb1 hXw).sl
  generalize hN : W1.heap.size = N at hmk2 hI2
  have hNlt : w.heap.size < N := by omega
  have hzz : N < W2.heap.size := by omega
  clear hN hI1
  go_enter Try.func12, Try.ntmps12
  go_wp2_with fail
  clear hmk1 hmk2 x0 x1 hz1 hz2 hb1 hb2
  go_loopw [8] (fun i wr => ∃ k : Nat, k ≤ n ∧ i = .int .i64 k ∧ Below w.heap.size w wr ∧ N < wr.heap.size ∧ (∃ f, Ints .u64 wr w.heap.size n f ∧ ∀ j, j < k → f j = (((t j).1 : Nat) : Int)) ∧ ∃ g, Ints .i64 wr N n g ∧ ∀ j, j < k → g j = (t j).2) (fun i _ => n - (intOf i).toNat)
  case atStart => exact ⟨0, Nat.zero_le _, rfl, hbb, hzz, ⟨_, hI1', fun j hj => absurd hj (Nat.not_lt_zero j)⟩, _, hI2, fun j hj => absurd hj (Nat.not_lt_zero j)⟩
  case round =>
    clear hbb hI1' hI2 hzz
    obtain ⟨k, hk, rfl, hb, hz, ⟨f, hf, hfe⟩, g, hg, hge⟩ := hrel
    have hXr := hX.below hb hXw
    have x0 := hXr.sl
    by_cases hlt : k < n
    · obtain ⟨S, rfl, hSw, hT⟩ := hS (by omega)
      have hlt' : (k : Int) < (n : Int) := by omega
      have hTr := hT.below hb hSw
      have c1 := hTr.hash k hlt
      have c2 := hTr.place k hlt
      have d1 := hf.cell k hlt
      have d2 := hf.free k hlt
      have e1 := hg.cell k hlt
      have e2 := hg.free k hlt
      have hf2 := (hf.set hlt (((t k).1 : Nat) : Int))
      have hb2 := hb.setCell (p := ⟨w.heap.size, k, none⟩) (Nat.le_refl _) (.int .u64 (((t k).1 : Nat) : Int))
      have hX2 := hX.below hb2 hXw
      have y0 := hX2.sl
      have hT2 := hT.below hb2 hSw
      have y2 := hT2.place k hlt
      have hg2 := hg.other (X := w.heap.size) (o := k) (by omega) (.int .u64 (((t k).1 : Nat) : Int))
      have y3 := hg2.cell k hlt
      have y4 := hg2.free k hlt
      have hg3 := hg2.set hlt (t k).2
      have hf3 := hf2.other (X := N) (o := k) (by omega) (.int .i64 (t k).2)
      have hb3 := hb2.setCell (p := ⟨N, k, none⟩) (by show w.heap.size ≤ N; omega) (.int .i64 (t k).2)
      have HF : Hid (Below w.heap.size w ((wr.setCell ⟨w.heap.size, k, none⟩ (.int .u64 (((t k).1 : Nat) : Int))).setCell ⟨N, k, none⟩ (.int .i64 (t k).2)) ∧ N < ((wr.setCell ⟨w.heap.size, k, none⟩ (.int .u64 (((t k).1 : Nat) : Int))).setCell ⟨N, k, none⟩ (.int .i64 (t k).2)).heap.size ∧
        (∃ f, Ints .u64 ((wr.setCell ⟨w.heap.size, k, none⟩ (.int .u64 (((t k).1 : Nat) : Int))).setCell ⟨N, k, none⟩ (.int .i64 (t k).2)) w.heap.size n f ∧ ∀ j, j < k + 1 → f j = (((t j).1 : Nat) : Int)) ∧ ∃ g, Ints .i64 ((wr.setCell ⟨w.heap.size, k, none⟩ (.int .u64 (((t k).1 : Nat) : Int))).setCell ⟨N, k, none⟩ (.int .i64 (t k).2)) N n g ∧ ∀ j, j < k + 1 → g j = (t j).2) := by
        refine ⟨hb3, by simpa [World.setCell] using hz, ⟨_, hf3, fun j hj => ?_⟩, _, hg3, fun j hj => ?_⟩
        · by_cases e : j = k
          · subst e; rw [if_pos rfl]
          · rw [if_neg e]; exact hfe j (by omega)
        · by_cases e : j = k
          · subst e; rw [if_pos rfl]
          · rw [if_neg e]; exact hge j (by omega)
      clear hf2 hb2 hX2 hT2 hg2 hg3 hf3 hb3 hfe hge hf hg hb hXr hTr hX hS hT
      go_wp2_with fail
      go_roundw
      case rel => exact ⟨k + 1, by omega, by go_num, HF.out⟩
      case measure => simp [intOf]; omega
    · have e : n = k := by omega
      subst e
      have x1 := hXr.ct
      have x2 := hXr.tc
      go_wp2_with fail
      go_quiet (fail)
      go_wp2_with fail
      refine bodyPost_ret (v := .tuple #[.slice (some ⟨w.heap.size, 0, none⟩) n n, .slice (some ⟨N, 0, none⟩) n n, .int .i64 (c : Int), .int .u64 tch]) (by simp [results, Try.results12, go_sem]) rfl ?_
      refine ⟨w.heap.size, N, rfl, Nat.le_refl _, by omega, ?_, hz, ⟨fun j hj => ?_, hf.free⟩, ⟨fun j hj => ?_, hg.free⟩, below_drewN hb nq⟩
      · show w.heap.size < wr.heap.size; omega
      · rw [← hfe j hj]; exact hf.cell j hj
      · rw [← hge j hj]; exact hg.cell j hj

/-- what ZZMake hands back -/
def Makes (w : World) (n c : Nat) (tch : Int) (t : Nat → Nat × Int) (e : Ending) (w' : World) : Prop :=
  ∃ X a, e = .returned (.pointer (some ⟨X, 0, none⟩)) ∧ w.heap.size ≤ X ∧ X < w'.heap.size ∧ Idx w' X a n c tch ∧ (0 < n → ∃ S, X < S ∧ a = some ⟨S, 0, none⟩ ∧ S < w'.heap.size ∧ Tab w' S n t) ∧ Below w.heap.size w w'

theorem idx_new (w : World) (a : Option Addr) (n c : Nat) (tch : Int) : Idx (w.alloc (.cells #[.slice a n n, .int .i64 (c : Int), .int .u64 tch] 48)) w.heap.size a n c tch :=
  ⟨by rw [World.cell?_alloc_at (hn := rfl)]; rfl, by rw [World.cell?_alloc_at (hn := rfl)]; rfl, by rw [World.cell?_alloc_at (hn := rfl)]; rfl, World.frozen?_alloc_at _ _ _ _ rfl, World.frozen?_alloc_at _ _ _ _ rfl⟩

set_option maxHeartbeats 400000 in
theorem make_zero (a a' : Option Addr) (cap cap' m c : Nat) (tch : Int) (t : Nat → Nat × Int) (w : World) :
    Calls Try.prog 10 #[.slice a 0 cap, .slice a' m cap', .int .i64 (c : Int), .int .u64 tch] w fun e w' => Makes w 0 c tch t e w' := by
  have HX := idx_new w none 0 c tch
  go_enter Try.func10, Try.ntmps10
  go_wp2_with fail
  go_ret
  exact ⟨w.heap.size, none, rfl, Nat.le_refl _, by simp, HX, fun h => absurd h (by omega), (Below.refl _ _).alloc (Nat.le_refl _) _⟩

set_option maxHeartbeats 1000000 in
theorem make_some (b off b' off' n cap cap' c : Nat) (tch : Int) (t : Nat → Nat × Int) (w : World) (h0 : 0 < n) (hn : n ≤ 1048576) (hbw : b < w.heap.size) (hbw' : b' < w.heap.size)
    (hh : ∀ j, j < n → w.cell? ⟨b, off + j, none⟩ = some (.int .u64 (((t j).1 : Nat) : Int))) (hpl : ∀ j, j < n → w.cell? ⟨b', off' + j, none⟩ = some (.int .i64 (t j).2)) (hf : ∀ j, (t j).1 < 18446744073709551616) :
    Calls Try.prog 10 #[.slice (some ⟨b, off, none⟩) n cap, .slice (some ⟨b', off', none⟩) n cap', .int .i64 (c : Int), .int .u64 tch] w fun e w' => Makes w n c tch t e w' := by
  have h0' : (0 : Int) < (n : Int) := by omega
  have hX1 := idx_new w (some ⟨w.heap.size + 1, 0, none⟩) n c tch
  have hb1 : Below w.heap.size w (w.alloc (.cells #[.slice (some ⟨w.heap.size + 1, 0, none⟩) n n, .int .i64 (c : Int), .int .u64 tch] 48)) := (Below.refl _ _).alloc (Nat.le_refl _) _
  have hz1 : (w.alloc (.cells #[.slice (some ⟨w.heap.size + 1, 0, none⟩) n n, .int .i64 (c : Int), .int .u64 tch] 48)).heap.size = w.heap.size + 1 := by simp
  have hmk := make_pairs 46 52 Try.underlying46 Try.info52 n hn
  go_enter Try.func10, Try.ntmps10
  go_wp2_with fail
  clear hmk
  generalize w.alloc (.cells #[.slice (some ⟨w.heap.size + 1, 0, none⟩) n n, .int .i64 (c : Int), .int .u64 tch] 48) = W1 at hX1 hb1 hz1 ⊢
  have hba : Below W1.heap.size W1 (W1.alloc (.cells (madeCells #[.int .u64 0, .int .i64 0] (n * 2)) 52)) := (Below.refl _ _).alloc (Nat.le_refl _) _
  have hT2 := tab_made W1 52 n
  rw [hz1] at hT2 hba
  have hX2 := hX1.below hba (by omega)
  have hb2 : Below w.heap.size w (W1.alloc (.cells (madeCells #[.int .u64 0, .int .i64 0] (n * 2)) 52)) := hb1.trans (hba.mono (by omega))
  have hz2 : w.heap.size + 1 < (W1.alloc (.cells (madeCells #[.int .u64 0, .int .i64 0] (n * 2)) 52)).heap.size := by rw [World.size_alloc]; omega
  generalize W1.alloc (.cells (madeCells #[.int .u64 0, .int .i64 0] (n * 2)) 52) = W2 at hT2 hX2 hb2 hz2 ⊢
  clear hX1 hb1 hz1 hba
  go_loopw [10] (fun i wr => ∃ k : Nat, k ≤ n ∧ i = .int .i64 k ∧ Idx wr w.heap.size (some ⟨w.heap.size + 1, 0, none⟩) n c tch ∧ Below w.heap.size w wr ∧ w.heap.size + 1 < wr.heap.size ∧ ∃ f, Tab wr (w.heap.size + 1) n f ∧ ∀ j, j < k → f j = t j) (fun i _ => n - (intOf i).toNat)
  case atStart => exact ⟨0, Nat.zero_le _, rfl, hX2, hb2, hz2, _, hT2, fun j hj => absurd hj (Nat.not_lt_zero j)⟩
  case round =>
    clear hT2 hX2 hb2 hz2
    obtain ⟨k, hk, rfl, hX, hb, hz, f, hT, hfe⟩ := hrel
    by_cases hlt : k < n
    · have hlt' : (k : Int) < (n : Int) := by omega
      have c1 : wr.cell? ⟨b, off + k, none⟩ = some (.int .u64 (((t k).1 : Nat) : Int)) := by rw [hb.cell (p := ⟨b, off + k, none⟩) hbw]; exact hh k hlt
      have c2 : wr.cell? ⟨b', off' + k, none⟩ = some (.int .i64 (t k).2) := by rw [hb.cell (p := ⟨b', off' + k, none⟩) hbw']; exact hpl k hlt
      have x0 := hX.sl
      have d1 := hT.hash k hlt
      have d2 := hT.place k hlt
      have d3 := hT.fh k hlt
      have d4 := hT.fp k hlt
      have HF : Hid (Idx (put wr (w.heap.size + 1) k (t k)) w.heap.size (some ⟨w.heap.size + 1, 0, none⟩) n c tch ∧ Below w.heap.size w (put wr (w.heap.size + 1) k (t k)) ∧ w.heap.size + 1 < (put wr (w.heap.size + 1) k (t k)).heap.size ∧ ∃ f, Tab (put wr (w.heap.size + 1) k (t k)) (w.heap.size + 1) n f ∧ ∀ j, j < k + 1 → f j = t j) := by
        refine ⟨hX.put (by omega) _ _, put_below hb (by omega) _ _, by rw [put_size]; exact hz, _, hT.put hlt _ (hf k), fun j hj => ?_⟩
        by_cases e : j = k
        · subst e; rw [Tbl.upd_same]
        · rw [Tbl.upd_other _ _ _ e]; exact hfe j (by omega)
      clear hX hT hb hfe hh hpl
      unfold put at HF
      go_wp2_with fail
      go_region
      all_goals
        go_wp2_with fail
        obtain ⟨q1, q2, q3, f2, q4, q5⟩ := HF.out
        go_roundw
        case rel => exact ⟨k + 1, by omega, by go_num, q1.drew, q2.drew, q3, f2, q4.drew, q5⟩
        case measure => simp [intOf]; omega
    · have e : n = k := by omega
      subst e
      go_wp2_with fail
      go_ret
      exact ⟨w.heap.size, _, rfl, Nat.le_refl _, by omega, hX, fun _ => ⟨w.heap.size + 1, by omega, rfl, hz, ⟨fun j hj => by rw [← hfe j hj]; exact hT.hash j hj, fun j hj => by rw [← hfe j hj]; exact hT.place j hj, hT.fh, hT.fp, hf⟩⟩, hb⟩

/-- ZZMake, whole -/
theorem make_any (a a' : Option Addr) (n cap cap' c : Nat) (tch : Int) (t : Nat → Nat × Int) (w : World) (hn : n ≤ 1048576)
    (hh : HRow w a n (fun j => (t j).1)) (hp : PRow w a' n (fun j => (t j).2)) (hf : ∀ j, (t j).1 < 18446744073709551616) :
    Calls Try.prog 10 #[.slice a n cap, .slice a' n cap', .int .i64 (c : Int), .int .u64 tch] w fun e w' => Makes w n c tch t e w' := by
  by_cases h0 : 0 < n
  · obtain ⟨b, off, rfl, hbw, hc⟩ := hh h0
    obtain ⟨b', off', rfl, hbw', hc'⟩ := hp h0
    exact make_some b off b' off' n cap cap' c tch t w h0 hn hbw hbw' hc hc' hf
  · have e : n = 0 := by omega
    subst e
    exact make_zero a a' cap cap' 0 c tch t w

end Go.Proofs.Qxb6602356a
