/-
  THE WALKS OF sameMultisetHiB1, tableItemsHiB1, grownLenHiB1.
-/
import Derived.Test.Qxb6602356aSortWalks
import Derived.Test.Qxb6602356aInsert
namespace Go.Proofs.Qxb6602356a
open Go.RowKit

set_option maxHeartbeats 400000 in
theorem same_any (ba oa ca bb ob cb k : Nat) (fa fb : Nat → Nat × Int) (w : World) (hk : k ≤ 262144) (hca : k ≤ ca) (hca2 : ca ≤ 9223372036854775807) (hcb : k ≤ cb) (hcb2 : cb ≤ 9223372036854775807)
    (ha : Rd w ba oa k fa) (hb : Rd w bb ob k fb) (hperm : (Srt.lst fa k).Perm (Srt.lst fb k)) :
    Calls Try.prog 15 #[.slice (some ⟨ba, oa, none⟩) k ca, .slice (some ⟨bb, ob, none⟩) k cb] w fun e w' => e = .returned (.bool true) ∧ Below w.heap.size w w' := by
  go_enter Try.func15, Try.ntmps15
  go_wp2_with fail
  refine (sort_any k hk ba oa ca fa w hca hca2 ha).mono ?_
  rintro e w1 ⟨g1, f1, rfl, hg1, hg1', hT1, hS1, hP1, hb1⟩
  go_wp2_with fail
  refine (sort_any k hk bb ob cb fb w1 hcb hcb2 (hb.below hb1)).mono ?_
  rintro e w2 ⟨g2, f2, rfl, hg2, hg2', hT2, hS2, hP2, hb2⟩
  have hlst : Srt.lst f1 k = Srt.lst f2 k := Srt.sorted_unique _ _ hS1 hS2 ((hP1.trans hperm).trans hP2.symm)
  have heq := Srt.lst_ext k hlst
  have hT1' := hT1.below hb2 hg1'
  have hbw : Below w.heap.size w w2 := hb1.trans (hb2.mono hb1.size)
  have HE : Hid (∀ j, j < k → f1 j = f2 j) := heq
  clear ha hb hperm hS1 hP1 hS2 hP2 hlst heq hT1 hb1 hb2
  go_wp2_with fail
  go_loopw [7] (fun i wr => ∃ j : Nat, j ≤ k ∧ i = .int .i64 j ∧ ∃ q, wr = w2.drewN q) (fun i _ => k - (intOf i).toNat)
  case atStart => exact ⟨0, Nat.zero_le _, rfl, 0, rfl⟩
  case round =>
    obtain ⟨j, hj, rfl, q, rfl⟩ := hrel
    by_cases hlt : j < k
    · have hlt' : (j : Int) < (k : Int) := by omega
      have c1 := (hT1'.drewN q).hash j hlt
      have c2 := (hT1'.drewN q).place j hlt
      have d1 := (hT2.drewN q).hash j hlt
      have d2 := (hT2.drewN q).place j hlt
      rw [HE.out j hlt] at c1 c2
      generalize hW : w2.drewN q = W at c1 c2 d1 d2 ⊢
      have HW : Hid (w2.drewN q = W) := hW
      clear hW
      go_wp2_with fail
      go_quiet (fail)
      go_wp2_with fail
      go_roundw
      case rel => exact ⟨j + 1, by omega, by go_num, q + nq, by rw [← HW.out, World.drewN_drewN]⟩
      case measure => simp [intOf]; omega
    · go_wp2_with fail
      go_ret
      exact ⟨rfl, below_drewN hbw q⟩

/-- what tableItems hands back: the items, in the order of their slots -/
def Lists (w : World) (n : Nat) (t : Nat → Nat × Int) (e : Ending) (w' : World) : Prop :=
  ∃ g f, e = .returned (.slice (some ⟨g, 0, none⟩) (Tbl.cnt t n) n) ∧ w.heap.size ≤ g ∧ g < w'.heap.size ∧ Tab w' g n f ∧ Srt.lst f (Tbl.cnt t n) = Tbl.items t n ∧ Below w.heap.size w w'

set_option maxHeartbeats 1000000 in
theorem items_any (a a' : Option Addr) (n cap cap' : Nat) (t : Nat → Nat × Int) (w : World) (hn : n ≤ 262144)
    (hh : HRow w a n (fun j => (t j).1)) (hp : PRow w a' n (fun j => (t j).2)) (hf : ∀ j, (t j).1 < 18446744073709551616) :
    Calls Try.prog 14 #[.slice a n cap, .slice a' n cap'] w fun e w' => Lists w n t e w' := by
  have hmk := make_pairs0 n (by omega) w
  have HM := tab_made w 37 n
  have HB : Below w.heap.size w (w.alloc (.cells (madeCells #[.int .u64 0, .int .i64 0] (n * 2)) 37)) := (Below.refl _ _).alloc (Nat.le_refl _) _
  have HZ : w.heap.size < (w.alloc (.cells (madeCells #[.int .u64 0, .int .i64 0] (n * 2)) 37)).heap.size := by simp
  generalize w.alloc (.cells (madeCells #[.int .u64 0, .int .i64 0] (n * 2)) 37) = W at hmk HM HB HZ
  go_enter Try.func14, Try.ntmps14
  go_wp2_with fail
  clear hmk
  go_loopw [5, 6] (fun o i wr => ∃ k : Nat, k ≤ n ∧ i = .int .i64 k ∧ o = .slice (some ⟨w.heap.size, 0, none⟩) (Tbl.cnt t k) n ∧ ∃ f, Tab wr w.heap.size n f ∧ Srt.lst f (Tbl.cnt t k) = Tbl.items t k ∧ Below w.heap.size w wr ∧ w.heap.size < wr.heap.size) (fun _ i _ => n - (intOf i).toNat)
  case atStart => exact ⟨0, Nat.zero_le _, rfl, rfl, _, HM, rfl, HB, HZ⟩
  case round =>
    clear HM HB HZ
    obtain ⟨k, hk, rfl, rfl, f, hT, hl, hb, hs⟩ := hrel
    have hcl := Tbl.cnt_le t k
    by_cases hlt : k < n
    · obtain ⟨b, off, rfl, hbw, hc⟩ := hh (by omega)
      obtain ⟨b', off', rfl, hbw', hc'⟩ := hp (by omega)
      have hlt' : (k : Int) < (n : Int) := by omega
      have c1 : wr.cell? ⟨b, off + k, none⟩ = some (.int .u64 (((t k).1 : Nat) : Int)) := by rw [hb.cell (p := ⟨b, off + k, none⟩) hbw]; exact hc k hlt
      have c2 : wr.cell? ⟨b', off' + k, none⟩ = some (.int .i64 (t k).2) := by rw [hb.cell (p := ⟨b', off' + k, none⟩) hbw']; exact hc' k hlt
      clear hc hc'
      by_cases hz : (t k).1 = 0
      · have hz' : ((((t k).1 : Nat) : Int) == 0) = true := by rw [hz]; rfl
        have H1 : Hid (Tbl.cnt t (k + 1) = Tbl.cnt t k ∧ Tbl.items t (k + 1) = Tbl.items t k) := ⟨by rw [Tbl.cnt, if_pos hz]; rfl, by rw [Tbl.items, if_pos hz, List.append_nil]⟩
        clear hz
        go_wp2_with fail
        go_roundw
        case rel => exact ⟨k + 1, by omega, by go_num, by rw [H1.out.1], f, hT, by rw [H1.out.1, H1.out.2]; exact hl, hb, hs⟩
        case measure => simp [intOf]; omega
      · have hz' : ((((t k).1 : Nat) : Int) == 0) = false := by rw [beq_eq_false_iff_ne]; omega
        have H1 : Hid (Tbl.cnt t (k + 1) = Tbl.cnt t k + 1 ∧ Tbl.items t (k + 1) = Tbl.items t k ++ [t k]) := ⟨by rw [Tbl.cnt, if_neg hz], by rw [Tbl.items, if_neg hz]⟩
        clear hz
        have hbox : (wr.alloc (.cells #[.int .u64 (((t k).1 : Nat) : Int), .int .i64 (t k).2] 37)).cell? ⟨wr.heap.size, 0, none⟩ = some (.int .u64 (((t k).1 : Nat) : Int)) ∧ (wr.alloc (.cells #[.int .u64 (((t k).1 : Nat) : Int), .int .i64 (t k).2] 37)).cell? ⟨wr.heap.size, 1, none⟩ = some (.int .i64 (t k).2) := ⟨by rw [World.cell?_alloc_at (hn := rfl)]; rfl, by rw [World.cell?_alloc_at (hn := rfl)]; rfl⟩
        have HO := (hT.below (B := wr.heap.size) ((Below.refl _ _).alloc (Nat.le_refl _) (.cells #[.int .u64 (((t k).1 : Nat) : Int), .int .i64 (t k).2] 37)) hs).drew
        have HN : Hid (∃ f, Tab (put (wr.alloc (.cells #[.int .u64 (((t k).1 : Nat) : Int), .int .i64 (t k).2] 37)).drew w.heap.size (Tbl.cnt t k) (t k)) w.heap.size n f ∧ Srt.lst f (Tbl.cnt t k + 1) = Tbl.items t k ++ [t k] ∧ Below w.heap.size w (put (wr.alloc (.cells #[.int .u64 (((t k).1 : Nat) : Int), .int .i64 (t k).2] 37)).drew w.heap.size (Tbl.cnt t k) (t k)) ∧ w.heap.size < (put (wr.alloc (.cells #[.int .u64 (((t k).1 : Nat) : Int), .int .i64 (t k).2] 37)).drew w.heap.size (Tbl.cnt t k) (t k)).heap.size) := by
          refine ⟨_, HO.put (by omega) (t k) (hf k), by rw [Srt.lst_upd, hl], put_below (hb.alloc hb.size _).drew (Nat.le_refl _) _ _, ?_⟩
          rw [put_size]
          show w.heap.size < (wr.alloc _).heap.size
          simp; omega
        go_wp2_with fail
        go_region_law (refine step_append_pair rfl _ _ rfl w.heap.size (Tbl.cnt t k) n wr.heap.size (t k) f rfl rfl HO (by omega) hbox.1 hbox.2 ?_)
        all_goals
          go_wp2_with fail
          obtain ⟨f2, q1, q2, q3, q4⟩ := HN.out
          go_roundw
          case rel => exact ⟨k + 1, by omega, by go_num, by rw [H1.out.1], f2, q1, by rw [H1.out.1, H1.out.2]; exact q2, q3, q4⟩
          case measure => simp [intOf]; omega
    · have e : n = k := by omega
      subst e
      go_wp2_with fail
      go_ret
      exact ⟨w.heap.size, f, rfl, Nat.le_refl _, hs, hT, hl, hb⟩

set_option maxHeartbeats 400000 in
theorem items_zero (a a' : Option Addr) (cap cap' : Nat) (w : World) :
    Calls Try.prog 14 #[.slice a 0 cap, .slice a' 0 cap'] w fun e w' => e = .returned (.slice (some ⟨w.heap.size, 0, none⟩) 0 0) ∧ w' = w.alloc (.cells #[] 37) := by
  have hmk : (Instr.makeSlice 34 (.int .i64 0) (.int .i64 0)).run Try.prog w = .ok (.slice (some ⟨w.heap.size, 0, none⟩) 0 0) (w.alloc (.cells #[] 37)) := by
    have h := make_pairs0 0 (by omega) w
    rw [show madeCells #[Value.int .u64 0, Value.int .i64 0] (0 * 2) = #[] by simp [madeCells]] at h
    exact h
  go_enter Try.func14, Try.ntmps14
  go_wp2_with fail
  go_loop [5, 6] (fun o i => o = .slice (some ⟨w.heap.size, 0, none⟩) 0 0 ∧ i = .int .i64 0) (fun _ _ => 0)
  case atStart => exact ⟨rfl, rfl⟩
  case round =>
    obtain ⟨rfl, rfl⟩ := hrel
    go_wp2_with fail
    go_ret
    exact ⟨rfl, rfl⟩

/-- 'append(x, v)' where x is an empty slice of the call's own, without room -/
theorem wpList_append_first {ops : Array Oper} {rest : List Oper} {o : Oper} {a : Act} {Q : Exit → Act → World → Prop} (w : World) (hgd : o.guard = none) (s x : Operand)
    (hop : o.op = .call { callee := .builtin .append, args := #[s, x], argTypes := #[34, 34] }) (g R : Nat) (v : Nat × Int) (hv : v.1 < 18446744073709551616)
    (hs : a.eval s = .slice (some ⟨g, 0, none⟩) 0 0) (hx : a.eval x = .slice (some ⟨R, 0, none⟩) 1 1) (hg : w.heap[g]? = some (.cells #[] 37 (0, 0)))
    (h1 : w.cell? ⟨R, 0, none⟩ = some (.int .u64 ((v.1 : Nat) : Int))) (h2 : w.cell? ⟨R, 1, none⟩ = some (.int .i64 v.2))
    (hK : ∀ g2 cap2 w', 1 ≤ cap2 → cap2 ≤ 9223372036854775807 → Rd w' g2 0 1 (fun _ => v) → Below g w w' → wpList Try.prog ops Q rest (a.put o.dst (.slice (some ⟨g2, 0, none⟩) 1 cap2)) w') : wpList Try.prog ops Q (o :: rest) a w := by
  obtain ⟨i, hi, hzz⟩ := Option.map_eq_some_iff.1 Try.info37
  simp only [Prod.mk.injEq] at hzz
  obtain ⟨hz, hsz, hb⟩ := hzz
  have hgl : g < w.heap.size := (Array.getElem?_eq_some_iff.1 hg).1
  refine wpList_append_own w hgd s x 34 hop g 37 i (.agg #[.int .u64 0, .int .i64 0]) 2 16 Try.underlying34 hi hz hsz hb rfl (by decide) (.slice (some ⟨g, 0, none⟩) 0 0) 0 [] hs
    ⟨rfl, .inr ⟨g, 0, #[], rfl, Nat.le_refl _, hg, Nat.le_refl _, by simp [maxLen], rfl, rfl⟩⟩ ⟨R, 0, none⟩ 1 1 [.int .u64 ((v.1 : Nat) : Int), .int .i64 v.2] hx rfl
    (fun j u hj => by
      match j, hj with
      | 0, hj => simp at hj; subst hj; simpa [Addr.add] using h1
      | 1, hj => simp at hj; subst hj; simpa [Addr.add] using h2)
    (fun u hu => by simp at hu; rcases hu with rfl | rfl <;> rfl) (by simp [maxLen]) (by omega) (by omega) ?_
  intro v' w' hown hgrow hnil
  rcases hown.2 with ⟨hn, _⟩ | ⟨g2, cap2, cur, rfl, hg2, hh2, hc2, hm2, hcs, htk⟩
  · have := hnil.1 hn
    simp at this
  · unfold maxLen at hm2
    have hbel : Below g w w' := (Below.refl g w).grown hgrow (by omega) (fun k hk => by simp [Value.ownBlock] at hk; omega)
    have hcell : ∀ j u, [Value.int .u64 ((v.1 : Nat) : Int), .int .i64 v.2][j]? = some u → w'.cell? ⟨g2, j, none⟩ = some u := fun j u hu => by
      have hj2 := hown.cells (g := g2) rfl j u (by simpa using hu)
      have hadd : (⟨g2, 0, none⟩ : Addr).add j = ⟨g2, j, none⟩ := by
        by_cases h : j = 0 <;> simp [Addr.add, h]
      rw [hadd] at hj2; exact hj2
    refine hK g2 cap2 w' (by omega) (by omega) ⟨fun j hj => ?_, fun j hj => ?_, (Array.getElem?_eq_some_iff.1 hh2).1, fun _ => hv⟩ hbel
    · have e : j = 0 := by omega
      subst e
      exact hcell 0 _ rfl
    · have e : j = 0 := by omega
      subst e
      exact hcell 1 _ rfl

set_option maxHeartbeats 400000 in
theorem grownLen_any (n : Nat) (w : World) (hn : n ≤ 1048576) :
    Calls Try.prog 13 #[.int .i64 (n : Int)] w fun e w' => e = .returned (.int .i64 ((grown n : Nat) : Int)) ∧ w' = w := by
  unfold grown
  by_cases h : 2 * n < 16
  · have h' : 2 * (n : Int) < 16 := by omega
    rw [if_pos h]
    go_enter Try.func13, Try.ntmps13
    go_wp2
    go_ret
    exact ⟨rfl, rfl⟩
  · have h' : ¬ 2 * (n : Int) < 16 := by omega
    rw [if_neg h]
    go_enter Try.func13, Try.ntmps13
    go_wp2
    go_ret
    exact ⟨ret_i64 (by omega), rfl⟩

end Go.Proofs.Qxb6602356a
