/-
  THE WALKS OF pairLessHiB1, sortPairsHiB1, sameMultisetHiB1.
-/
import Derived.Test.Qxb6602356aGrow
import Derived.Test.Qxb6602356aValid
import Derived.Test.Qxb6602356aSort
import Derived.Deep.RegionLaw
namespace Go.Proofs.Qxb6602356a
open Go.RowKit

/-- a pair as a value -/
def pv (x : Nat × Int) : Value := .agg #[.int .u64 ((x.1 : Nat) : Int), .int .i64 x.2]

set_option maxHeartbeats 400000 in
theorem less_any (x y : Nat × Int) (w : World) :
    Calls Try.prog 30 #[.agg #[.int .u64 ((x.1 : Nat) : Int), .int .i64 x.2], .agg #[.int .u64 ((y.1 : Nat) : Int), .int .i64 y.2]] w fun e w' => e = .returned (.bool (Srt.lessB x y)) ∧ Below w.heap.size w w' := by
  by_cases h : x.1 = y.1
  · have h' : ((((x.1 : Nat) : Int)) == ((y.1 : Nat) : Int)) = true := by rw [h]; exact beq_self_eq_true _
    have e : Srt.lessB x y = decide (x.2 < y.2) := by unfold Srt.lessB; rw [if_pos h]
    rw [e]
    clear h e
    go_enter Try.func30, Try.ntmps30
    go_wp2
    go_ret
    exact ⟨rfl, ((Below.refl _ _).alloc (Nat.le_refl _) _).alloc (by simp) _⟩
  · have h' : ((((x.1 : Nat) : Int)) == ((y.1 : Nat) : Int)) = false := by rw [beq_eq_false_iff_ne]; omega
    have e : Srt.lessB x y = decide (x.1 < y.1) := by unfold Srt.lessB; rw [if_neg h]
    rw [e]
    clear h e
    go_enter Try.func30, Try.ntmps30
    go_wp2
    go_ret
    exact ⟨rfl, ((Below.refl _ _).alloc (Nat.le_refl _) _).alloc (by simp) _⟩

/-- k pairs that can be read from place off on of block b -/
structure Rd (w : World) (b off k : Nat) (f : Nat → Nat × Int) : Prop where
  hash : ∀ j, j < k → w.cell? ⟨b, off + j * 2, none⟩ = some (.int .u64 (((f j).1 : Nat) : Int))
  place : ∀ j, j < k → w.cell? ⟨b, off + j * 2 + 1, none⟩ = some (.int .i64 (f j).2)
  lt : b < w.heap.size
  fits : ∀ j, (f j).1 < 18446744073709551616

theorem Rd.below {w w' : World} {b off k : Nat} {f : Nat → Nat × Int} (h : Rd w b off k f) (hb : Below w.heap.size w w') : Rd w' b off k f :=
  ⟨fun j hj => by rw [hb.cell (p := ⟨b, off + j * 2, none⟩) h.lt]; exact h.hash j hj, fun j hj => by rw [hb.cell (p := ⟨b, off + j * 2 + 1, none⟩) h.lt]; exact h.place j hj, Nat.lt_of_lt_of_le h.lt hb.size, h.fits⟩

theorem Tab.rd {w : World} {S n : Nat} {t : Nat → Nat × Int} (h : Tab w S n t) (hS : S < w.heap.size) (k : Nat) (hk : k ≤ n) : Rd w S 0 k t :=
  ⟨fun j hj => by rw [Nat.zero_add]; exact h.hash j (by omega), fun j hj => by rw [Nat.zero_add]; exact h.place j (by omega), hS, h.fits⟩

/-- what a sort hands back -/
def Sorts (w : World) (k : Nat) (f : Nat → Nat × Int) (e : Ending) (w' : World) : Prop :=
  ∃ g f', e = .returned (.slice (some ⟨g, 0, none⟩) k k) ∧ w.heap.size ≤ g ∧ g < w'.heap.size ∧ Tab w' g k f' ∧ Srt.Sorted (Srt.lst f' k) ∧ (Srt.lst f' k).Perm (Srt.lst f k) ∧ Below w.heap.size w w'

theorem Rd.old {w w' : World} {b off k B : Nat} {f : Nat → Nat × Int} (h : Rd w b off k f) (hb : Below B w w') (hB : b < B) : Rd w' b off k f :=
  ⟨fun j hj => by rw [hb.cell (p := ⟨b, off + j * 2, none⟩) hB]; exact h.hash j hj, fun j hj => by rw [hb.cell (p := ⟨b, off + j * 2 + 1, none⟩) hB]; exact h.place j hj, Nat.lt_of_lt_of_le h.lt hb.size, h.fits⟩

set_option maxHeartbeats 400000 in
theorem sort_small (b off k cap : Nat) (f : Nat → Nat × Int) (w : World) (hk1 : k ≤ 1) (hr : Rd w b off k f) :
    Calls Try.prog 28 #[.slice (some ⟨b, off, none⟩) k cap] w fun e w' => Sorts w k f e w' := by
  have hmk := make_pairs 34 37 Try.underlying34 Try.info37 k (by omega)
  have HT := tab_made w 37 k
  have HB : Below w.heap.size w (w.alloc (.cells (madeCells #[.int .u64 0, .int .i64 0] (k * 2)) 37)) := (Below.refl _ _).alloc (Nat.le_refl _) _
  have HS : w.heap.size < (w.alloc (.cells (madeCells #[.int .u64 0, .int .i64 0] (k * 2)) 37)).heap.size := by simp
  generalize (madeCells #[Value.int .u64 0, Value.int .i64 0] (k * 2)) = C at HT hmk HB HS
  have hle : (k : Int) ≤ 1 := by omega
  go_enter Try.func28, Try.ntmps28
  go_wp2
  go_loopw [4] (fun i wr => ∃ j : Nat, j ≤ k ∧ i = .int .i64 j ∧ ∃ f', Tab wr w.heap.size k f' ∧ (∀ q, q < j → f' q = f q) ∧ Below w.heap.size w wr ∧ w.heap.size < wr.heap.size) (fun i _ => k - (intOf i).toNat)
  case atStart => exact ⟨0, Nat.zero_le _, rfl, _, HT, fun q hq => absurd hq (Nat.not_lt_zero q), HB, HS⟩
  case round =>
    clear HT HB HS
    obtain ⟨j, hj, rfl, f', hT, heq, hb, hs⟩ := hrel
    by_cases hlt : j < k
    · have hj' : (j : Int) < (k : Int) := by omega
      have hr2 := hr.old hb hr.lt
      have c1 := hr2.hash j hlt
      have c2 := hr2.place j hlt
      have d1 := hT.hash j hlt
      have d2 := hT.place j hlt
      have d3 := hT.fh j hlt
      have d4 := hT.fp j hlt
      have HF : Hid (∃ f2, Tab (put wr w.heap.size j (f j)) w.heap.size k f2 ∧ (∀ q, q < j + 1 → f2 q = f q) ∧ Below w.heap.size w (put wr w.heap.size j (f j)) ∧ w.heap.size < (put wr w.heap.size j (f j)).heap.size) := by
        refine ⟨_, hT.put hlt _ (hr.fits j), fun q hq => ?_, put_below hb (Nat.le_refl _) _ _, by rw [put_size]; exact hs⟩
        by_cases e : q = j
        · subst e; rw [Tbl.upd_same]
        · rw [Tbl.upd_other _ _ _ e]; exact heq q (by omega)
      unfold put at HF
      clear hT heq hb hr2 hr hmk
      go_wp2
      go_roundw
      case rel => exact ⟨j + 1, by omega, by go_num, HF.out⟩
      case measure => simp [intOf]; omega
    · have e : k = j := by omega
      subst e
      go_wp2
      go_ret
      refine ⟨w.heap.size, f', rfl, Nat.le_refl _, hs, hT, ?_, by rw [Srt.lst_congr k heq], hb⟩
      have hl := Srt.lst_length f' k
      generalize Srt.lst f' k = l at hl
      match l, hl with
      | [], _ => exact List.Pairwise.nil
      | [x], _ => exact List.pairwise_singleton _ _
      | x :: y :: l, hl => simp at hl; omega

/-- 'append(out, x)' where there is room: one pair more -/
theorem run_append_pair (w : World) (ty : TypeId) (g k cap R : Nat) (v : Nat × Int) (f : Nat → Nat × Int) (hT : Tab w g cap f) (hroom : k + 1 ≤ cap)
    (h1 : w.cell? ⟨R, 0, none⟩ = some (.int .u64 ((v.1 : Nat) : Int))) (h2 : w.cell? ⟨R, 1, none⟩ = some (.int .i64 v.2)) :
    (Builtin.append_ #[34, 34] ty #[.slice (some ⟨g, 0, none⟩) k cap, .slice (some ⟨R, 0, none⟩) 1 1]).run Try.prog w = .ok (.slice (some ⟨g, 0, none⟩) (k + 1) cap) (put w g k v) := by
  obtain ⟨i, hi, hzz⟩ := Option.map_eq_some_iff.1 Try.info37
  simp only [Prod.mk.injEq] at hzz
  obtain ⟨_, hs, _⟩ := hzz
  have h := run_append_room_cells (P := Try.prog) w 34 ty 37 i Try.underlying34 hi g 0 k cap ⟨R, 0, none⟩ 1 1 [.int .u64 ((v.1 : Nat) : Int), .int .i64 v.2] (by rw [hs]; rfl)
    (fun j u hj => by
      match j, hj with
      | 0, hj => simp at hj; subst hj; simpa [Addr.add] using h1
      | 1, hj => simp at hj; subst hj; simpa [Addr.add] using h2)
    (fun u hu => by simp at hu; rcases hu with rfl | rfl <;> rfl) hroom
    (fun j hj => by
      rw [hs]
      match j, hj with
      | 0, _ => rw [Nat.zero_add, Nat.add_zero, hT.hash k (by omega)]; rfl
      | 1, _ => rw [Nat.zero_add, hT.place k (by omega)]; rfl)
    (fun j hj => by
      rw [hs]
      match j, hj with
      | 0, _ => rw [Nat.zero_add, Nat.add_zero]; exact hT.fh k (by omega)
      | 1, _ => rw [Nat.zero_add]; exact hT.fp k (by omega))
  rw [hs, Nat.zero_add] at h
  exact h

theorem wpList_append_pair {ops : Array Oper} {rest : List Oper} {o : Oper} {a : Act} {Q : Exit → Act → World → Prop} (w : World) (hgd : o.guard = none) (s x : Operand)
    (hop : o.op = .call { callee := .builtin .append, args := #[s, x], argTypes := #[34, 34] }) (g k cap R : Nat) (v : Nat × Int) (f : Nat → Nat × Int)
    (hs : a.eval s = .slice (some ⟨g, 0, none⟩) k cap) (hx : a.eval x = .slice (some ⟨R, 0, none⟩) 1 1) (hT : Tab w g cap f) (hroom : k + 1 ≤ cap)
    (h1 : w.cell? ⟨R, 0, none⟩ = some (.int .u64 ((v.1 : Nat) : Int))) (h2 : w.cell? ⟨R, 1, none⟩ = some (.int .i64 v.2))
    (hK : wpList Try.prog ops Q rest (a.put o.dst (.slice (some ⟨g, 0, none⟩) (k + 1) cap)) (put w g k v)) : wpList Try.prog ops Q (o :: rest) a w := by
  refine wpList_plain hgd fun K hK' => ?_
  have hrun := run_append_pair w o.type g k cap R v f hT hroom h1 h2
  unfold Oper.wp
  simp [execOp, hop, resolve, invoke, builtin, hs, hx, hrun, Result.andThen]
  exact hK' _ _ hK

theorem step_append_pair {ops : Array Oper} {o : Oper} {a : Act} {w : World} {K : Act → World → Prop} {Q : Exit → Act → World → Prop} {E : Prop} (hgd : o.guard = none) (s x : Operand)
    (hop : o.op = .call { callee := .builtin .append, args := #[s, x], argTypes := #[34, 34] }) (g k cap R : Nat) (v : Nat × Int) (f : Nat → Nat × Int)
    (hs : a.eval s = .slice (some ⟨g, 0, none⟩) k cap) (hx : a.eval x = .slice (some ⟨R, 0, none⟩) 1 1) (hT : Tab w g cap f) (hroom : k + 1 ≤ cap)
    (h1 : w.cell? ⟨R, 0, none⟩ = some (.int .u64 ((v.1 : Nat) : Int))) (h2 : w.cell? ⟨R, 1, none⟩ = some (.int .i64 v.2))
    (hK : K (a.put o.dst (.slice (some ⟨g, 0, none⟩) (k + 1) cap)) (put w g k v)) :
    if Region.wanted o (yielded ops a.tmps) = true then Oper.wp Try.prog o a w K Q else E := by
  have hw : Region.wanted o (yielded ops a.tmps) = true := by simp [Region.wanted, hgd]
  rw [if_pos hw]
  have hrun := run_append_pair w o.type g k cap R v f hT hroom h1 h2
  unfold Oper.wp
  simp [execOp, hop, resolve, invoke, builtin, hs, hx, hrun, Result.andThen]
  exact hK

/-- 'make([]T, 0, n)' -/
theorem make_pairs0 (n : Nat) (hn : n ≤ 1048576) (w : World) :
    (Instr.makeSlice 34 (.int .i64 0) (.int .i64 (n : Int))).run Try.prog w = .ok (.slice (some ⟨w.heap.size, 0, none⟩) 0 n) (w.alloc (.cells (madeCells #[.int .u64 0, .int .i64 0] (n * 2)) 37)) := by
  obtain ⟨i, hi, hzz⟩ := Option.map_eq_some_iff.1 Try.info37
  simp only [Prod.mk.injEq] at hzz
  obtain ⟨hz, hs, hb⟩ := hzz
  have h := run_make (P := Try.prog) w 34 37 i (.agg #[.int .u64 0, .int .i64 0]) Try.underlying34 hi hz .i64 .i64 0 n (by omega) (by omega) (by rw [hb]; omega) (by omega)
  rw [hs, Int.toNat_natCast] at h
  exact h

/-- a merge on its way, in memory -/
structure MSt (w wr : World) (N k g1 g2 nl nr i j : Nat) (f1 f2 out : Nat → Nat × Int) : Prop where
  merge : Srt.Merge f1 f2 out nl nr i j
  out : Tab wr N k out
  l : Tab wr g1 nl f1
  r : Tab wr g2 nr f2
  below : Below w.heap.size w wr
  size : N < wr.heap.size

theorem MSt.step {w wr : World} {N k g1 g2 nl nr i j i' j' : Nat} {f1 f2 out : Nat → Nat × Int} (h : MSt w wr N k g1 g2 nl nr i j f1 f2 out) (hg1 : g1 < N) (hg2 : g2 < N) (hN : w.heap.size ≤ N) {v : Nat × Int} (hv : v.1 < 18446744073709551616) (hk : i + j < k)
    (hm : Srt.Merge f1 f2 (Tbl.upd out (i + j) v) nl nr i' j') (o : Obj) : MSt w (put (wr.alloc o) N (i + j) v) N k g1 g2 nl nr i' j' f1 f2 (Tbl.upd out (i + j) v) := by
  have hs := h.size
  have hba : Below wr.heap.size wr (wr.alloc o) := (Below.refl _ _).alloc (Nat.le_refl _) _
  refine ⟨hm, (h.out.below hba hs).put hk v hv, (h.l.below hba (by omega)).put2 (by omega) _ _, (h.r.below hba (by omega)).put2 (by omega) _ _, put_below (h.below.alloc h.below.size o) hN _ _, ?_⟩
  rw [put_size]; simp; omega

theorem MSt.later {w wr wr' : World} {N k g1 g2 nl nr i j : Nat} {f1 f2 out : Nat → Nat × Int} (h : MSt w wr N k g1 g2 nl nr i j f1 f2 out) (hb : Below wr.heap.size wr wr') (hg1 : g1 < N) (hg2 : g2 < N) : MSt w wr' N k g1 g2 nl nr i j f1 f2 out := by
  have hs := h.size
  have hz := hb.size
  exact ⟨h.merge, h.out.below hb hs, h.l.below hb (by omega), h.r.below hb (by omega), h.below.trans (hb.mono h.below.size), by omega⟩

set_option maxHeartbeats 1000000 in
theorem sort_more (k b off cap : Nat) (f : Nat → Nat × Int) (w : World) (hk : 2 ≤ k) (hk2 : k ≤ 262144) (hcap : k ≤ cap) (hcap2 : cap ≤ 9223372036854775807) (hr : Rd w b off k f)
    (ih : ∀ m, m < k → ∀ b off cap f w, m ≤ cap → cap ≤ 9223372036854775807 → Rd w b off m f → Calls Try.prog 28 #[.slice (some ⟨b, off, none⟩) m cap] w fun e w' => Sorts w m f e w') :
    Calls Try.prog 28 #[.slice (some ⟨b, off, none⟩) k cap] w fun e w' => Sorts w k f e w' := by
  have hle : ¬ (k : Int) ≤ 1 := by omega
  have IH : Hid (∀ m, m < k → ∀ b off cap f w, m ≤ cap → cap ≤ 9223372036854775807 → Rd w b off m f → Calls Try.prog 28 #[.slice (some ⟨b, off, none⟩) m cap] w fun e w' => Sorts w m f e w') := ih
  clear ih
  go_enter Try.func28, Try.ntmps28
  go_wp2_with fail
  have hr1 : Rd w b off (k / 2) f := ⟨fun j hj => hr.hash j (by omega), fun j hj => hr.place j (by omega), hr.lt, hr.fits⟩
  have hr2 : Rd w b (off + k / 2 * 2) (k - k / 2) (fun j => f (k / 2 + j)) :=
    ⟨fun j hj => by rw [show off + k / 2 * 2 + j * 2 = off + (k / 2 + j) * 2 by omega]; exact hr.hash _ (by omega), fun j hj => by rw [show off + k / 2 * 2 + j * 2 + 1 = off + (k / 2 + j) * 2 + 1 by omega]; exact hr.place _ (by omega), hr.lt, fun j => hr.fits _⟩
  refine (IH.out (k / 2) (by omega) b off cap f w (by omega) hcap2 hr1).mono ?_
  rintro e w1 ⟨g1, f1, rfl, hg1, hg1', hT1, hS1, hP1, hb1⟩
  go_wp2_with fail
  refine (IH.out (k - k / 2) (by omega) b (off + k / 2 * 2) (cap - k / 2) _ w1 (by omega) (by omega) (hr2.below hb1)).mono ?_
  rintro e w2 ⟨g2, f2, rfl, hg2, hg2', hT2, hS2, hP2, hb2⟩
  have hmk := make_pairs0 k (by omega) w2
  have hT1' := hT1.below hb2 hg1'
  have hb12 : Below w.heap.size w w2 := hb1.trans (hb2.mono hb1.size)
  have hPP : (Srt.lst f1 (k / 2) ++ Srt.lst f2 (k - k / 2)).Perm (Srt.lst f k) := by
    have e := Srt.lst_add f (k / 2) (k - k / 2)
    rw [show k / 2 + (k - k / 2) = k by omega] at e
    rw [e]
    exact (hP1.append_right _).trans (hP2.append_left _)
  have hsum : k / 2 + (k - k / 2) = k := by omega
  generalize k - k / 2 = nr at hT2 hS2 hPP hsum ⊢
  generalize k / 2 = nl at hT1' hS1 hPP hsum ⊢
  have hgg : g1 < w2.heap.size := Nat.lt_of_lt_of_le hg1' hb2.size
  clear hr hr1 hr2 IH hT1 hP1 hP2 hb1 hb2
  have HM := tab_made w2 37 k
  have HB := hb12.alloc hb12.size (.cells (madeCells #[.int .u64 0, .int .i64 0] (k * 2)) 37)
  have hba : Below w2.heap.size w2 (w2.alloc (.cells (madeCells #[.int .u64 0, .int .i64 0] (k * 2)) 37)) := (Below.refl _ _).alloc (Nat.le_refl _) _
  have HT1 := hT1'.below hba hgg
  have HT2 := hT2.below hba hg2'
  have HZ : w2.heap.size < (w2.alloc (.cells (madeCells #[.int .u64 0, .int .i64 0] (k * 2)) 37)).heap.size := by simp
  have hNw : w.heap.size ≤ w2.heap.size := hb12.size
  generalize w2.alloc (.cells (madeCells #[.int .u64 0, .int .i64 0] (k * 2)) 37) = W at hmk HM HB HT1 HT2 HZ
  clear hT1' hT2 hb12 hba
  generalize w2.heap.size = N at hmk HM HZ hgg hg2' hNw
  have Hsum : Hid (nl + nr = k) := hsum
  have hkl : nl + nr ≤ k := by omega
  clear hsum
  have HS0 : MSt w W N k g1 g2 nl nr 0 0 f1 f2 _ := ⟨Srt.Merge.start _ _ _ _ _, HM, HT1, HT2, HB, HZ⟩
  clear HM HT1 HT2 HB HZ
  go_wp2_with fail
  clear hmk
  go_loopw [8, 9, 10] (fun o i j wr => ∃ a b : Nat, ∃ out, o = .slice (some ⟨N, 0, none⟩) (a + b) k ∧ i = .int .i64 a ∧ j = .int .i64 b ∧ MSt w wr N k g1 g2 nl nr a b f1 f2 out) (fun _ i j _ => nl + nr - ((intOf i).toNat + (intOf j).toNat))
  case atStart => exact ⟨0, 0, _, rfl, rfl, rfl, HS0⟩
  case round =>
    clear HS0
    obtain ⟨a, b, out, rfl, rfl, rfl, hst⟩ := hrel
    have hal := hst.merge.il
    have hbr := hst.merge.jr
    by_cases hboth : a < nl ∧ b < nr
    · obtain ⟨h1, h2⟩ := hboth
      have h1' : (a : Int) < (nl : Int) := by omega
      have h2' : (b : Int) < (nr : Int) := by omega
      have l1 := hst.l.hash a h1
      have l2 := hst.l.place a h1
      have r1 := hst.r.hash b h2
      have r2 := hst.r.place b h2
      have hS1' : Hid (Srt.Sorted (Srt.lst f1 nl)) := hS1
      have hS2' : Hid (Srt.Sorted (Srt.lst f2 nr)) := hS2
      have hk' : a + b < k := by omega
      by_cases hless : Srt.lessB (f2 b) (f1 a) = true
      · have HL : Hid (Srt.lessB (f2 b) (f1 a) = true) := hless
        clear hless
        go_wp2_with fail
        go_region_with (go_at_call 30; refine (less_any (f2 b) (f1 a) _).mono ?_; rw [HL.out]; rintro e w' ⟨rfl, hbw⟩; have hst2 := hst.later (wr' := w') ⟨hbw.os, hbw.tape, hbw.output, hbw.size, hbw.block⟩ hgg hg2')
        all_goals
          clear l1 l2 r1 r2
          have hbox : ∀ X : World, (X.alloc (.cells #[.int .u64 (((f2 b).1 : Nat) : Int), .int .i64 (f2 b).2] 37)).cell? ⟨X.heap.size, 0, none⟩ = some (.int .u64 (((f2 b).1 : Nat) : Int)) ∧ (X.alloc (.cells #[.int .u64 (((f2 b).1 : Nat) : Int), .int .i64 (f2 b).2] 37)).cell? ⟨X.heap.size, 1, none⟩ = some (.int .i64 (f2 b).2) := fun X => ⟨by rw [World.cell?_alloc_at (hn := rfl)]; rfl, by rw [World.cell?_alloc_at (hn := rfl)]; rfl⟩
          have r1 := hst2.r.hash b h2
          have r2 := hst2.r.place b h2
          have hnext := hst2.step hgg hg2' hNw (v := f2 b) (hst2.r.fits b) hk' (hst2.merge.takeR hS1'.out hS2'.out h1 h2 HL.out) (.cells #[.int .u64 (((f2 b).1 : Nat) : Int), .int .i64 (f2 b).2] 37)
          have HX : Hid (MSt w (put (w'.alloc (.cells #[.int .u64 (((f2 b).1 : Nat) : Int), .int .i64 (f2 b).2] 37)) N (a + b) (f2 b)) N k g1 g2 nl nr a (b + 1) f1 f2 (Tbl.upd out (a + b) (f2 b))) := hnext
          have HO := (hst2.out.below (B := w'.heap.size) ((Below.refl _ _).alloc (Nat.le_refl _) (.cells #[.int .u64 (((f2 b).1 : Nat) : Int), .int .i64 (f2 b).2] 37)) hst2.size)
          clear hnext hst2 hst
          go_wp2_with (at_builtin; refine wpList_append_pair _ rfl _ _ rfl N (a + b) k w'.heap.size (f2 b) out rfl rfl HO (by omega) (hbox w').1 (hbox w').2 ?_)
          go_roundw
          case rel => exact ⟨a, b + 1, _, rfl, rfl, by go_num, HX.out⟩
          case measure => simp [intOf]; omega
      · have HL : Hid (Srt.lessB (f2 b) (f1 a) = false) := (by simpa using hless : Srt.lessB (f2 b) (f1 a) = false)
        clear hless
        go_wp2_with fail
        go_region_with (go_at_call 30; refine (less_any (f2 b) (f1 a) _).mono ?_; rw [HL.out]; rintro e w' ⟨rfl, hbw⟩; have hst2 := hst.later (wr' := w') ⟨hbw.os, hbw.tape, hbw.output, hbw.size, hbw.block⟩ hgg hg2')
        all_goals
          clear l1 l2 r1 r2
          have hbox : ∀ X : World, (X.alloc (.cells #[.int .u64 (((f1 a).1 : Nat) : Int), .int .i64 (f1 a).2] 37)).cell? ⟨X.heap.size, 0, none⟩ = some (.int .u64 (((f1 a).1 : Nat) : Int)) ∧ (X.alloc (.cells #[.int .u64 (((f1 a).1 : Nat) : Int), .int .i64 (f1 a).2] 37)).cell? ⟨X.heap.size, 1, none⟩ = some (.int .i64 (f1 a).2) := fun X => ⟨by rw [World.cell?_alloc_at (hn := rfl)]; rfl, by rw [World.cell?_alloc_at (hn := rfl)]; rfl⟩
          have r1 := hst2.l.hash a h1
          have r2 := hst2.l.place a h1
          have hnext := hst2.step hgg hg2' hNw (v := f1 a) (hst2.l.fits a) hk' (hst2.merge.takeL hS1'.out hS2'.out h1 h2 HL.out) (.cells #[.int .u64 (((f1 a).1 : Nat) : Int), .int .i64 (f1 a).2] 37)
          have HX : Hid (MSt w (put (w'.alloc (.cells #[.int .u64 (((f1 a).1 : Nat) : Int), .int .i64 (f1 a).2] 37)) N (a + b) (f1 a)) N k g1 g2 nl nr (a + 1) b f1 f2 (Tbl.upd out (a + b) (f1 a))) := hnext
          have HO := (hst2.out.below (B := w'.heap.size) ((Below.refl _ _).alloc (Nat.le_refl _) (.cells #[.int .u64 (((f1 a).1 : Nat) : Int), .int .i64 (f1 a).2] 37)) hst2.size)
          clear hnext hst2 hst
          go_wp2_with (at_builtin; refine wpList_append_pair _ rfl _ _ rfl N (a + b) k w'.heap.size (f1 a) out rfl rfl HO (by omega) (hbox w').1 (hbox w').2 ?_)
          go_roundw
          case rel => exact ⟨a + 1, b, _, by rw [show a + 1 + b = a + b + 1 by omega], by go_num, rfl, HX.out⟩
          case measure => simp [intOf]; omega
    · have hB : a < nl → b = nr := fun h => by omega
      have hS1' : Hid (Srt.Sorted (Srt.lst f1 nl)) := hS1
      have hS2' : Hid (Srt.Sorted (Srt.lst f2 nr)) := hS2
      have HPP : Hid ((Srt.lst f1 nl ++ Srt.lst f2 nr).Perm (Srt.lst f k)) := hPP
      clear hboth hS1 hS2 hPP
      have hways : (a < nl ∧ ¬ b < nr) ∨ ¬ a < nl := by omega
      rcases hways with ⟨hw1, hw2⟩ | hw1
      all_goals
        go_wp2_with fail
        go_loopw [8, 9] (fun o i wr => ∃ c : Nat, ∃ out, o = .slice (some ⟨N, 0, none⟩) (c + b) k ∧ i = .int .i64 c ∧ (c < nl → b = nr) ∧ MSt w wr N k g1 g2 nl nr c b f1 f2 out) (fun _ i _ => nl - (intOf i).toNat)
        case atStart => exact ⟨a, out, rfl, rfl, hB, hst⟩
        case round =>
          clear hst hB hal hw1
          obtain ⟨c, out, rfl, rfl, hB, hst⟩ := hrel
          have hal := hst.merge.il
          by_cases h1 : c < nl
          · have hbn := hB h1
            have h1' : (c : Int) < (nl : Int) := by omega
            have hk' : c + b < k := by omega
            have hbox : ∀ X : World, (X.alloc (.cells #[.int .u64 (((f1 c).1 : Nat) : Int), .int .i64 (f1 c).2] 37)).cell? ⟨X.heap.size, 0, none⟩ = some (.int .u64 (((f1 c).1 : Nat) : Int)) ∧ (X.alloc (.cells #[.int .u64 (((f1 c).1 : Nat) : Int), .int .i64 (f1 c).2] 37)).cell? ⟨X.heap.size, 1, none⟩ = some (.int .i64 (f1 c).2) := fun X => ⟨by rw [World.cell?_alloc_at (hn := rfl)]; rfl, by rw [World.cell?_alloc_at (hn := rfl)]; rfl⟩
            have l1 := hst.l.hash c h1
            have l2 := hst.l.place c h1
            have HX : Hid (MSt w (put (wr.alloc (.cells #[.int .u64 (((f1 c).1 : Nat) : Int), .int .i64 (f1 c).2] 37)) N (c + b) (f1 c)) N k g1 g2 nl nr (c + 1) b f1 f2 (Tbl.upd out (c + b) (f1 c))) :=
              hst.step hgg hg2' hNw (v := f1 c) (hst.l.fits c) hk' (hst.merge.left hS1'.out h1 (fun q h3 h4 => absurd h4 (by omega))) _
            have HO := (hst.out.below (B := wr.heap.size) ((Below.refl _ _).alloc (Nat.le_refl _) (.cells #[.int .u64 (((f1 c).1 : Nat) : Int), .int .i64 (f1 c).2] 37)) hst.size)
            have HBN : Hid (b = nr) := hbn
            clear hst hbn hB
            go_wp2_with (at_builtin; refine wpList_append_pair _ rfl _ _ rfl N (c + b) k wr.heap.size (f1 c) out rfl rfl HO (by omega) (hbox wr).1 (hbox wr).2 ?_)
            go_roundw
            case rel => exact ⟨c + 1, _, by rw [show c + 1 + b = c + b + 1 by omega], by go_num, fun _ => HBN.out, HX.out⟩
            case measure => simp [intOf]; omega
          · clear hB
            have ec : nl = c := by omega
            subst ec
            go_wp2_with fail
            go_loopw [8, 10] (fun o j wr => ∃ d : Nat, ∃ out, o = .slice (some ⟨N, 0, none⟩) (nl + d) k ∧ j = .int .i64 d ∧ MSt w wr N k g1 g2 nl nr nl d f1 f2 out) (fun _ j _ => nr - (intOf j).toNat)
            case atStart => exact ⟨b, out, rfl, rfl, hst⟩
            case round =>
              clear hst hbr
              obtain ⟨d, out, rfl, rfl, hst⟩ := hrel
              have hbr := hst.merge.jr
              by_cases h2 : d < nr
              · have h2' : (d : Int) < (nr : Int) := by omega
                have hk' : nl + d < k := by omega
                have hbox : ∀ X : World, (X.alloc (.cells #[.int .u64 (((f2 d).1 : Nat) : Int), .int .i64 (f2 d).2] 37)).cell? ⟨X.heap.size, 0, none⟩ = some (.int .u64 (((f2 d).1 : Nat) : Int)) ∧ (X.alloc (.cells #[.int .u64 (((f2 d).1 : Nat) : Int), .int .i64 (f2 d).2] 37)).cell? ⟨X.heap.size, 1, none⟩ = some (.int .i64 (f2 d).2) := fun X => ⟨by rw [World.cell?_alloc_at (hn := rfl)]; rfl, by rw [World.cell?_alloc_at (hn := rfl)]; rfl⟩
                have r1 := hst.r.hash d h2
                have r2 := hst.r.place d h2
                have HX : Hid (MSt w (put (wr.alloc (.cells #[.int .u64 (((f2 d).1 : Nat) : Int), .int .i64 (f2 d).2] 37)) N (nl + d) (f2 d)) N k g1 g2 nl nr nl (d + 1) f1 f2 (Tbl.upd out (nl + d) (f2 d))) :=
                  hst.step hgg hg2' hNw (v := f2 d) (hst.r.fits d) hk' (hst.merge.right hS2'.out h2 (fun q h3 h4 => absurd h4 (by omega))) _
                have HO := (hst.out.below (B := wr.heap.size) ((Below.refl _ _).alloc (Nat.le_refl _) (.cells #[.int .u64 (((f2 d).1 : Nat) : Int), .int .i64 (f2 d).2] 37)) hst.size)
                clear hst
                go_wp2_with (at_builtin; refine wpList_append_pair _ rfl _ _ rfl N (nl + d) k wr.heap.size (f2 d) out rfl rfl HO (by omega) (hbox wr).1 (hbox wr).2 ?_)
                go_roundw
                case rel => exact ⟨d + 1, _, rfl, by go_num, HX.out⟩
                case measure => simp [intOf]; omega
              · have ed : nr = d := by omega
                subst ed
                go_wp2_with fail
                go_ret
                have hm := hst.merge
                have ho := hst.out
                have he := Hsum.out
                refine ⟨N, out, ?_, hNw, hst.size, ho, ?_, ?_, hst.below⟩
                · show Ending.returned (.slice (some ⟨N, 0, none⟩) (nl + nr) k) = _
                  rw [he]
                · rw [← he]; exact hm.sorted
                · rw [← he] at HPP ⊢; exact hm.perm.trans HPP.out

/-- the sort, whole -/
theorem sort_any (k : Nat) : k ≤ 262144 → ∀ (b off cap : Nat) (f : Nat → Nat × Int) (w : World), k ≤ cap → cap ≤ 9223372036854775807 → Rd w b off k f →
    Calls Try.prog 28 #[.slice (some ⟨b, off, none⟩) k cap] w fun e w' => Sorts w k f e w' := by
  induction k using Nat.strongRecOn with
  | _ k ih =>
    intro hk b off cap f w hcap hcap2 hr
    by_cases h1 : k ≤ 1
    · exact sort_small b off k cap f w h1 hr
    · exact sort_more k b off cap f w (by omega) hk hcap hcap2 hr (fun m hm b off cap f w h2 h3 h4 => ih m hm (by omega) b off cap f w h2 h3 h4)

end Go.Proofs.Qxb6602356a
