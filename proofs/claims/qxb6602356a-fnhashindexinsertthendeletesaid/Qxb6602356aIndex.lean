/-
  THE WALKS OF THE INDEX: mask, home, next, grow, Insert.
-/
import Derived.Test.Qxb6602356aRows
import Derived.Test.Qxb6602356aRuns
import Derived.WalkKit
import Derived.WalkSpells
import Derived.WalkLawsBesides
import Derived.OpenShut
import Derived.Deep.OwnRows
import Derived.Deep.LoopGhost
import Derived.Deep.QuietTactic
import Derived.BigQuiet
namespace Go.Proofs.Qxb6602356a
open Go.RowKit

/-! ### numbers -/

theorem ret_i64 {a b : Int} (h : a = b) : Ending.returned (.int .i64 a) = .returned (.int .i64 b) := by rw [h]

theorem wrap64_half {h : Nat} (hh : h < 18446744073709551616) : wrap64 ((h : Int) / 2) = ((h / 2 : Nat) : Int) := by
  unfold wrap64; omega

theorem and_mask (x : Int) (k : Nat) (hk : k ≤ 62) : bits .and .i64 x (((2 ^ k : Nat) : Int) - 1) = x % ((2 ^ k : Nat) : Int) := by
  have hp : 0 < 2 ^ k := Nat.pow_pos (by omega)
  have hle : 2 ^ k ≤ 2 ^ 62 := Nat.pow_le_pow_right (by omega) hk
  have h2 : (BitVec.ofInt 64 (((2 ^ k : Nat) : Int) - 1)).toNat = 2 ^ k - 1 := by
    rw [show ((2 ^ k : Nat) : Int) - 1 = ((2 ^ k - 1 : Nat) : Int) by omega, BitVec.ofInt_natCast, BitVec.toNat_ofNat]
    exact Nat.mod_eq_of_lt (by omega)
  show IntKind.i64.wrap ((BitVec.ofInt 64 x &&& BitVec.ofInt 64 (((2 ^ k : Nat) : Int) - 1)).toNat : Int) = _
  rw [BitVec.toNat_and, h2, Nat.and_two_pow_sub_one_eq_mod, BitVec.toNat_ofInt]
  have hx : (((x % ((2 ^ 64 : Nat) : Int)).toNat % 2 ^ k : Nat) : Int) = x % ((2 ^ k : Nat) : Int) := by
    rw [Int.natCast_emod, Int.toNat_of_nonneg (Int.emod_nonneg _ (by decide))]
    refine Int.emod_emod_of_dvd x ?_
    exact Int.natCast_dvd_natCast.2 (Nat.pow_dvd_pow 2 (by omega))
  rw [hx, IntKind.wrap_i64]
  have h3 := Int.emod_nonneg x (b := ((2 ^ k : Nat) : Int)) (by omega)
  have h4 := Int.emod_lt_of_pos x (b := ((2 ^ k : Nat) : Int)) (by omega)
  omega

theorem Tbl.Pow.mask {n : Nat} (h : Tbl.Pow n) (hn : n ≤ 1048576) (x : Int) : bits .and .i64 x ((n : Int) - 1) = x % (n : Int) := by
  obtain ⟨_, k, rfl⟩ := h
  refine and_mask x k ?_
  apply Classical.byContradiction
  intro c
  have : 2 ^ 62 ≤ 2 ^ k := Nat.pow_le_pow_right (by omega) (by omega)
  omega

set_option maxHeartbeats 400000 in
theorem mask_any (X n cap : Nat) (a : Option Addr) (w : World) (h0 : 1 ≤ n) (hn : n ≤ 1048576) (hs : w.cell? ⟨X, 0, none⟩ = some (.slice a n cap)) :
    Calls Try.prog 29 #[.pointer (some ⟨X, 0, none⟩)] w fun e w' => e = .returned (.int .i64 ((n : Int) - 1)) ∧ w' = w := by
  go_enter Try.func29, Try.ntmps29
  go_wp2
  go_ret
  exact ⟨rfl, rfl⟩

set_option maxHeartbeats 400000 in
theorem home_any (X n cap h : Nat) (a : Option Addr) (w : World) (hp : Tbl.Pow n) (hn : n ≤ 1048576) (hh : h < 18446744073709551616) (hs : w.cell? ⟨X, 0, none⟩ = some (.slice a n cap)) :
    Calls Try.prog 26 #[.pointer (some ⟨X, 0, none⟩), .int .u64 (h : Int)] w fun e w' => e = .returned (.int .i64 ((Tbl.home n h : Nat) : Int)) ∧ w' = w := by
  have h16 := hp.1
  have H := hp.mask hn
  have HH : Hid (h < 18446744073709551616) := hh
  clear hh
  go_enter Try.func26, Try.ntmps26
  go_wp2_with (go_at_call 29; refine (mask_any X n cap a _ (by omega) hn hs).mono ?_; rintro e w' ⟨rfl, rfl⟩)
  go_ret
  exact ⟨ret_i64 (by unfold Tbl.home; rw [wrap64_half HH.out, Int.natCast_emod]), rfl⟩

set_option maxHeartbeats 400000 in
theorem next_any (X n cap i : Nat) (a : Option Addr) (w : World) (hp : Tbl.Pow n) (hn : n ≤ 1048576) (hi : i < n) (hs : w.cell? ⟨X, 0, none⟩ = some (.slice a n cap)) :
    Calls Try.prog 27 #[.pointer (some ⟨X, 0, none⟩), .int .i64 (i : Int)] w fun e w' => e = .returned (.int .i64 (((i + 1) % n : Nat) : Int)) ∧ w' = w := by
  have h16 := hp.1
  have H := hp.mask hn
  go_enter Try.func27, Try.ntmps27
  go_wp2_with (go_at_call 29; refine (mask_any X n cap a _ (by omega) hn hs).mono ?_; rintro e w' ⟨rfl, rfl⟩)
  go_ret
  exact ⟨ret_i64 (by rw [Int.natCast_emod]; rfl), rfl⟩

/-! ### memory -/

/-- an Index at block X: its slots are the slice at a of n slots; its count; its touched -/
structure Idx (w : World) (X : Nat) (a : Option Addr) (n c : Nat) (tch : Int) : Prop where
  sl : w.cell? ⟨X, 0, none⟩ = some (.slice a n n)
  ct : w.cell? ⟨X, 1, none⟩ = some (.int .i64 (c : Int))
  tc : w.cell? ⟨X, 2, none⟩ = some (.int .u64 tch)
  f0 : w.frozen? ⟨X, 0, none⟩ = false
  f1 : w.frozen? ⟨X, 1, none⟩ = false

/-- n slots at block S -/
structure Tab (w : World) (S n : Nat) (t : Nat → Nat × Int) : Prop where
  hash : ∀ j, j < n → w.cell? ⟨S, j * 2, none⟩ = some (.int .u64 (((t j).1 : Nat) : Int))
  place : ∀ j, j < n → w.cell? ⟨S, j * 2 + 1, none⟩ = some (.int .i64 (t j).2)
  fh : ∀ j, j < n → w.frozen? ⟨S, j * 2, none⟩ = false
  fp : ∀ j, j < n → w.frozen? ⟨S, j * 2 + 1, none⟩ = false
  fits : ∀ j, (t j).1 < 18446744073709551616

theorem or1 (h : Nat) (hh : h < 18446744073709551616) : bits .or .u64 (h : Int) 1 = ((h ||| 1 : Nat) : Int) ∧ (h ||| 1) % 2 = 1 ∧ h ||| 1 < 18446744073709551616 := by
  have hx : h ||| 1 < 2 ^ 64 := Nat.or_lt_two_pow (by omega) (by omega)
  have h1 : (BitVec.ofInt 64 (h : Int)).toNat = h := by
    rw [BitVec.ofInt_natCast, BitVec.toNat_ofNat]; exact Nat.mod_eq_of_lt (by omega)
  refine ⟨?_, ?_, hx⟩
  · show IntKind.u64.wrap ((BitVec.ofInt 64 (h : Int) ||| BitVec.ofInt 64 1).toNat : Int) = _
    rw [BitVec.toNat_or, h1, IntKind.wrap_u64, show (BitVec.ofInt 64 1).toNat = 1 from rfl]
    omega
  · have ht : (h ||| 1).testBit 0 = true := by rw [Nat.testBit_or, show Nat.testBit 1 0 = true from rfl, Bool.or_true]
    rw [Nat.testBit_zero] at ht
    exact of_decide_eq_true ht

/-- a slot written -/
def put (w : World) (S J : Nat) (v : Nat × Int) : World := (w.setCell ⟨S, J * 2, none⟩ (.int .u64 ((v.1 : Nat) : Int))).setCell ⟨S, J * 2 + 1, none⟩ (.int .i64 v.2)

theorem put_cell (w : World) {S J : Nat} (v : Nat × Int) {a : Addr} (h : a.block ≠ S) : (put w S J v).cell? a = w.cell? a := by
  unfold put
  rw [World.cell?_setCell_other _ _ _ _ (fun e => h (by rw [← e])), World.cell?_setCell_other _ _ _ _ (fun e => h (by rw [← e]))]

theorem put_frozen (w : World) (S J : Nat) (v : Nat × Int) (a : Addr) : (put w S J v).frozen? a = w.frozen? a := by
  unfold put; rw [World.frozen?_setCell, World.frozen?_setCell]

theorem put_size (w : World) (S J : Nat) (v : Nat × Int) : (put w S J v).heap.size = w.heap.size := by simp [put, World.setCell]

theorem put_below {B : Nat} {w0 w : World} (h : Below B w0 w) {S : Nat} (hS : B ≤ S) (J : Nat) (v : Nat × Int) : Below B w0 (put w S J v) :=
  (h.setCell hS _).setCell hS _

theorem Idx.put {w : World} {X : Nat} {a : Option Addr} {n c : Nat} {tch : Int} (h : Idx w X a n c tch) {S : Nat} (hne : X ≠ S) (J : Nat) (v : Nat × Int) : Idx (put w S J v) X a n c tch :=
  ⟨by rw [put_cell _ _ (by exact hne)]; exact h.sl, by rw [put_cell _ _ (by exact hne)]; exact h.ct, by rw [put_cell _ _ (by exact hne)]; exact h.tc, by rw [put_frozen]; exact h.f0, by rw [put_frozen]; exact h.f1⟩

theorem Tab.put {w : World} {S n : Nat} {t : Nat → Nat × Int} (h : Tab w S n t) {J : Nat} (hJ : J < n) (v : Nat × Int) (hv : v.1 < 18446744073709551616) : Tab (put w S J v) S n (Tbl.upd t J v) := by
  refine ⟨fun j hj => ?_, fun j hj => ?_, fun j hj => by rw [put_frozen]; exact h.fh j hj, fun j hj => by rw [put_frozen]; exact h.fp j hj, fun j => ?_⟩
  · unfold Qxb6602356a.put
    rw [World.cell?_setCell_other _ _ _ _ (by simp)]
    by_cases e : J = j
    · subst e
      rw [World.cell?_setCell_same _ _ _ (h.hash J hj), Tbl.upd_same]
    · rw [World.cell?_setCell_other _ _ _ _ (by simp), Tbl.upd_other _ _ _ (fun c => e c.symm)]
      exact h.hash j hj
  · unfold Qxb6602356a.put
    by_cases e : J = j
    · subst e
      rw [World.cell?_setCell_same (u := .int .i64 (t J).2), Tbl.upd_same]
      rw [World.cell?_setCell_other _ _ _ _ (by simp)]
      exact h.place J hj
    · rw [World.cell?_setCell_other _ _ _ _ (by simp), World.cell?_setCell_other _ _ _ _ (by simp), Tbl.upd_other _ _ _ (fun c => e c.symm)]
      exact h.place j hj
  · by_cases e : j = J
    · subst e; rw [Tbl.upd_same]; exact hv
    · rw [Tbl.upd_other _ _ _ e]; exact h.fits j

/-- the count written -/
theorem Idx.count {w : World} {X : Nat} {a : Option Addr} {n c : Nat} {tch : Int} (h : Idx w X a n c tch) (c' : Nat) : Idx (w.setCell ⟨X, 1, none⟩ (.int .i64 (c' : Int))) X a n c' tch :=
  ⟨by rw [World.cell?_setCell_other _ _ _ _ (by simp)]; exact h.sl, World.cell?_setCell_same _ _ _ h.ct, by rw [World.cell?_setCell_other _ _ _ _ (by simp)]; exact h.tc, by rw [World.frozen?_setCell]; exact h.f0, by rw [World.frozen?_setCell]; exact h.f1⟩

theorem Tab.other {w : World} {S n : Nat} {t : Nat → Nat × Int} (h : Tab w S n t) {X o : Nat} (hne : X ≠ S) (v : Value) : Tab (w.setCell ⟨X, o, none⟩ v) S n t :=
  ⟨fun j hj => by rw [World.cell?_setCell_other _ _ _ _ (fun e => hne (by injection e))]; exact h.hash j hj, fun j hj => by rw [World.cell?_setCell_other _ _ _ _ (fun e => hne (by injection e))]; exact h.place j hj, fun j hj => by rw [World.frozen?_setCell]; exact h.fh j hj, fun j hj => by rw [World.frozen?_setCell]; exact h.fp j hj, h.fits⟩

set_option maxHeartbeats 400000 in
theorem insert_room (B X S n c h hh1 : Nat) (p tch : Int) (t : Nat → Nat × Int) (w : World) (hp : Tbl.Pow n) (hn : n ≤ 1048576) (hor : bits .or .u64 (h : Int) 1 = ((hh1 : Nat) : Int)) (hlt : hh1 < 18446744073709551616)
    (hX : Idx w X (some ⟨S, 0, none⟩) n c tch) (hT : Tab w S n t) (hXS : X ≠ S) (hBX : B ≤ X) (hBS : B ≤ S) (hc : Tbl.cnt t n = c) (hroom : 4 * (c + 1) ≤ 3 * n) :
    Calls Try.prog 11 #[.pointer (some ⟨X, 0, none⟩), .int .u64 (h : Int), .int .i64 p] w fun e w' => e = .returned (.tuple #[]) ∧
      ∃ t', Tbl.Ins n t hh1 p t' ∧ Idx w' X (some ⟨S, 0, none⟩) n (c + 1) tch ∧ Tab w' S n t' ∧ Below B w w' ∧ w'.heap.size = w.heap.size := by
  have h16 := hp.1
  have h0 := hX.sl
  have h1 := hX.ct
  have hle : ¬ (3 * (n : Int)) < 4 * ((c : Int) + 1) := by omega
  obtain ⟨D, hD, hDe⟩ := Tbl.dist_empty (t := t) (n := n) (by omega) (Tbl.home n hh1) (Tbl.home_lt (by omega) _)
  go_enter Try.func11, Try.ntmps11
  go_wp2_with fail
  go_quiet (fail)
  have hX2 : Idx (w.drewN nq) X (some ⟨S, 0, none⟩) n c tch := ⟨hX.sl, hX.ct, hX.tc, hX.f0, hX.f1⟩
  have hT2 : Tab (w.drewN nq) S n t := ⟨hT.hash, hT.place, hT.fh, hT.fp, hT.fits⟩
  have hb : Below B w (w.drewN nq) := below_drewN (Below.refl _ _) nq
  have hsz : (w.drewN nq).heap.size = w.heap.size := rfl
  clear hX hT h0 h1
  generalize w.drewN nq = W at hX2 hT2 hb hsz ⊢
  have h0 := hX2.sl
  have h1 := hX2.ct
  go_wp2_with fail
  refine (home_any X n n hh1 _ W hp hn hlt h0).mono ?_
  rintro e w' ⟨rfl, hw'⟩
  have hw'' := hw'.symm
  clear hw'
  subst hw''
  have HD : Hid ((t ((Tbl.home n hh1 + D) % n)).1 = 0) := hDe
  clear hDe hor
  go_wp2_with fail
  go_loopg [6] D (fun k i wr => wr = W ∧ ∃ d, d + k = D ∧ i = .int .i64 (((Tbl.home n hh1 + d) % n : Nat) : Int) ∧ ∀ d', d' < d → (t ((Tbl.home n hh1 + d') % n)).1 ≠ 0)
  case atStart => exact ⟨rfl, 0, by omega, by rw [Nat.add_zero, Nat.mod_eq_of_lt (Tbl.home_lt (by omega) _)], fun d' hd' => absurd hd' (Nat.not_lt_zero d')⟩
  case round =>
    obtain ⟨rfl, d, hd, rfl, hpath⟩ := hrel
    have HP : Hid (∀ d', d' < d → (t ((Tbl.home n hh1 + d') % n)).1 ≠ 0) := hpath
    clear hpath
    have hJlt : (Tbl.home n hh1 + d) % n < n := Nat.mod_lt _ (by omega)
    have HN : Hid ((Tbl.home n hh1 + (d + 1)) % n = ((Tbl.home n hh1 + d) % n + 1) % n) := by
      show _ = _
      rw [Nat.mod_add_mod, Nat.add_assoc]
    generalize hJ : (Tbl.home n hh1 + d) % n = J at hJlt HN ⊢
    have HJ : Hid ((Tbl.home n hh1 + d) % n = J) := hJ
    clear hJ
    have hJ' : (J : Int) < (n : Int) := by omega
    have hch := hT2.hash J hJlt
    by_cases hz : (t J).1 = 0
    · have hIns : Tbl.Ins n t hh1 p (Tbl.upd t J (hh1, p)) := by
        rw [← HJ.out] at hz ⊢
        exact ⟨d, by omega, HP.out, hz, rfl⟩
      have HI : Hid (Tbl.Ins n t hh1 p (Tbl.upd t J (hh1, p))) := hIns
      clear hIns
      rw [hz] at hch
      have hcp := hT2.place J hJlt
      have hfh := hT2.fh J hJlt
      have hfp := hT2.fp J hJlt
      have hX3 := hX2.put (S := S) hXS J (hh1, p)
      have hT3 := hT2.put hJlt (hh1, p) hlt
      have hb3 := put_below hb hBS J (hh1, p)
      have hs3 := (put_size wr S J (hh1, p)).trans hsz
      have g1 := hX3.ct
      have g2 := hX3.f1
      have hX4 := hX3.count (c + 1)
      have hT4 := hT3.other (o := 1) hXS (.int .i64 ((c + 1 : Nat) : Int))
      have hb4 := hb3.setCell (p := ⟨X, 1, none⟩) hBX (.int .i64 ((c + 1 : Nat) : Int))
      have hs4 : ((put wr S J (hh1, p)).setCell ⟨X, 1, none⟩ (.int .i64 ((c + 1 : Nat) : Int))).heap.size = w.heap.size := by simpa [World.setCell] using hs3
      have HF : Hid (∃ t', Tbl.Ins n t hh1 p t' ∧ Idx ((put wr S J (hh1, p)).setCell ⟨X, 1, none⟩ (.int .i64 ((c + 1 : Nat) : Int))) X (some ⟨S, 0, none⟩) n (c + 1) tch ∧ Tab ((put wr S J (hh1, p)).setCell ⟨X, 1, none⟩ (.int .i64 ((c + 1 : Nat) : Int))) S n t' ∧ Below B w ((put wr S J (hh1, p)).setCell ⟨X, 1, none⟩ (.int .i64 ((c + 1 : Nat) : Int))) ∧ ((put wr S J (hh1, p)).setCell ⟨X, 1, none⟩ (.int .i64 ((c + 1 : Nat) : Int))).heap.size = w.heap.size) := ⟨_, HI.out, hX4, hT4, hb4, hs4⟩
      clear hX4 hT4 hb4 hs4 hX3 hT3 hb3 hs3 hX2 hT2 hb hsz
      unfold put at g1 g2
      go_wp2_with fail
      go_end0
      exact ⟨rfl, HF.out⟩
    · have hz' : ((((t J).1 : Nat) : Int) == 0) = false := by rw [beq_eq_false_iff_ne]; omega
      have hne : gk ≠ 0 := fun e => by
        have hdD : d = D := by omega
        have h1 := HD.out
        rw [← hdD, HJ.out] at h1
        exact hz h1
      have HQ : Hid (∀ d', d' < d + 1 → (t ((Tbl.home n hh1 + d') % n)).1 ≠ 0) := fun d' hd' => by
        by_cases e : d' = d
        · subst e; rw [HJ.out]; exact hz
        · exact HP.out d' (by omega)
      go_wp2_with fail
      refine (next_any X n n J _ wr hp hn hJlt h0).mono ?_
      rintro e w' ⟨rfl, hw'⟩
      have hw'' := hw'.symm
      clear hw'
      subst hw''
      go_wp2_with fail
      go_roundg (gk - 1)
      case measure => omega
      case rel => exact ⟨rfl, d + 1, by omega, by rw [HN.out]; simp, HQ.out⟩

end Go.Proofs.Qxb6602356a
