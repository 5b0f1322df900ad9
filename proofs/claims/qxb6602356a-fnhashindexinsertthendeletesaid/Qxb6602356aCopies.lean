/-
  WHAT THE LAWS' FIRST STATEMENTS LEAN ON: copies of the rows that came in; tableValid's two answers.
-/
import Derived.Test.Qxb6602356aMake
import Derived.Laws.IdiomCopy
namespace Go.Proofs.Qxb6602356a
open Go.RowKit

theorem Below.setCells {B g : Nat} {w0 : World} (hB : B ≤ g) : ∀ (vs : List Value) (o : Nat) (w : World), Below B w0 w → Below B w0 (w.setCells g o vs)
  | [], _, _, hb => hb
  | v :: r, o, _, hb => Below.setCells hB r (o + 1) _ (hb.setCell hB v)

theorem size_setCells (g : Nat) : ∀ (vs : List Value) (o : Nat) (w : World), (w.setCells g o vs).heap.size = w.heap.size
  | [], _, _ => rfl
  | v :: r, o, w => by rw [World.setCells, size_setCells g r (o + 1)]; simp [World.setCell]

/-- 'zzc := make([]T, len(x)); copy(zzc, x)' -/
theorem copied (K : IntKind) (T E : TypeId) (hT : Try.prog.underlying T = some (.slice E)) (hinfo : (Try.prog.info? E).map (fun i => (i.zero, i.size, i.bytes)) = some (some (.int K 0), 1, 8))
    (n cap : Nat) (x : Addr) (f : Nat → Int) (w : World) (hn : n ≤ 1048576) (hx : 0 < n → ∃ b off, x = ⟨b, off, none⟩ ∧ b < w.heap.size ∧ ∀ j, j < n → w.cell? ⟨b, off + j, none⟩ = some (.int K (f j))) :
    ∃ W1 W2, (Instr.makeSlice T (.int .i64 (n : Int)) (.int .i64 (n : Int))).run Try.prog w = .ok (.slice (some ⟨w.heap.size, 0, none⟩) n n) W1 ∧
      (∀ ty, (Builtin.copy_ #[T, T] ty #[.slice (some ⟨w.heap.size, 0, none⟩) n n, .slice (some x) n cap]).run Try.prog W1 = .ok (goInt n) W2) ∧ Ints K W2 w.heap.size n f ∧ Below w.heap.size w W2 ∧ w.heap.size < W2.heap.size := by
  have hmk := run_make_row' (P := Try.prog) T E (.int K 0) 8 hT hinfo rfl .i64 .i64 n (by omega) (by omega) w
  have hI := ints_made K w E n
  have hb : Below w.heap.size w (w.alloc (.cells (madeCells #[.int K 0] n) E)) := (Below.refl _ _).alloc (Nat.le_refl _) _
  have hz : (w.alloc (.cells (madeCells #[.int K 0] n) E)).heap.size = w.heap.size + 1 := by simp
  generalize w.alloc (.cells (madeCells #[.int K 0] n) E) = W1 at hmk hI hb hz
  have hl : ((List.range n).map fun j => Value.int K (f j)).length = n := by simp
  have hsz : (Try.prog.info? E).map (·.size) = some 1 := by
    obtain ⟨i, hi, hzz⟩ := Option.map_eq_some_iff.1 hinfo
    simp only [Prod.mk.injEq] at hzz
    rw [hi, ← hzz.2.1]; rfl
  have hcp := fun ty => run_copy_cells (P := Try.prog) W1 T T ty E w.heap.size 0 n n x n cap ((List.range n).map fun j => Value.int K (f j)) hT hsz (by rw [hl]; exact (Nat.min_self n).symm)
    (fun j v hj => by
      have hjn : j < n := by
        have := (List.getElem?_eq_some_iff.1 hj).1
        rw [hl] at this; exact this
      obtain ⟨b, off, rfl, hlt, hc⟩ := hx (by omega)
      have hadd : (⟨b, off, none⟩ : Addr).add j = ⟨b, off + j, none⟩ := by
        by_cases h : j = 0 <;> simp [Addr.add, h]
      rw [hadd, hb.cell (p := ⟨b, off + j, none⟩) hlt, hc j hjn]
      simp [hjn] at hj
      rw [hj])
    (fun j hj => by rw [hl] at hj; rw [Nat.zero_add, hI.cell j hj]; rfl) (fun j hj => by rw [hl] at hj; rw [Nat.zero_add]; exact hI.free j hj)
    (fun v hv => by obtain ⟨j, _, rfl⟩ := List.mem_map.1 hv; rfl)
  rw [hl] at hcp
  refine ⟨W1, _, hmk, hcp, ⟨fun j hj => ?_, fun j hj => by rw [World.frozen?_setCells]; exact hI.free j hj⟩, Below.setCells (Nat.le_refl _) _ _ _ hb, by rw [size_setCells]; omega⟩
  have h := World.cell?_setCells_in w.heap.size ((List.range n).map fun j => Value.int K (f j)) 0 W1 (fun i hi => by rw [hl] at hi; rw [Nat.zero_add, hI.cell i hi]; rfl) j (by rw [hl]; exact hj)
  rw [Nat.zero_add] at h
  rw [h]; simp

theorem Ints.hrow {w : World} {b n : Nat} {f : Nat → Nat} (h : Ints .u64 w b n (fun j => ((f j : Nat) : Int))) (hb : b < w.heap.size) : HRow w (some ⟨b, 0, none⟩) n f := fun _ =>
  ⟨b, 0, rfl, hb, fun j hj => by rw [Nat.zero_add]; exact h.cell j hj⟩
theorem Ints.prow {w : World} {b n : Nat} {f : Nat → Int} (h : Ints .i64 w b n f) (hb : b < w.heap.size) : PRow w (some ⟨b, 0, none⟩) n f := fun _ =>
  ⟨b, 0, rfl, hb, fun j hj => by rw [Nat.zero_add]; exact h.cell j hj⟩

theorem valid_yes (a a' : Option Addr) (n cap cap' : Nat) (c : Int) (t : Nat → Nat × Int) (w : World) (hn : n ≤ 1048576)
    (hh : HRow w a n (fun j => (t j).1)) (hp : PRow w a' n (fun j => (t j).2)) (hf : ∀ j, (t j).1 < 18446744073709551616) (hv : Tbl.Valid n t c) :
    Calls Try.prog 9 #[.slice a n cap, .slice a' n cap', .int .i64 c] w fun e w' => e = .returned (.bool true) ∧ w' = w := by
  refine (valid_any a a' n cap n cap' c t w hn hh hp hf).mono ?_
  rintro e w' ⟨⟨v, rfl, h⟩, hw⟩
  exact ⟨by rw [h.2 ⟨rfl, hv⟩], hw⟩

theorem valid_no (a a' : Option Addr) (n cap m cap' : Nat) (c : Int) (t : Nat → Nat × Int) (w : World) (hn : n ≤ 1048576)
    (hh : HRow w a n (fun j => (t j).1)) (hp : PRow w a' m (fun j => (t j).2)) (hf : ∀ j, (t j).1 < 18446744073709551616) (hv : ¬ (m = n ∧ Tbl.Valid n t c)) :
    Calls Try.prog 9 #[.slice a n cap, .slice a' m cap', .int .i64 c] w fun e w' => e = .returned (.bool false) ∧ w' = w := by
  refine (valid_any a a' n cap m cap' c t w hn hh hp hf).mono ?_
  rintro e w' ⟨⟨v, rfl, h⟩, hw⟩
  cases v with
  | false => exact ⟨rfl, hw⟩
  | true => exact absurd (h.1 rfl) hv

/-- a state out of a valid table -/
theorem St.of {w : World} {X n c : Nat} {a : Option Addr} {tch : Int} {t : Nat → Nat × Int} (hv : Tbl.Valid n t (c : Int)) (hXw : X < w.heap.size) (hX : Idx w X a n c tch)
    (hS : 0 < n → ∃ S, X < S ∧ a = some ⟨S, 0, none⟩ ∧ S < w.heap.size ∧ Tab w S n t) : St w X n t c tch := by
  refine ⟨hXw, ?_⟩
  rcases hv with ⟨rfl, hc⟩ | ⟨hp, hok, hc, hl⟩
  · have : c = 0 := by omega
    subst this
    exact .inl ⟨rfl, rfl, a, hX⟩
  · have := hp.1
    obtain ⟨S, hXS, rfl, hSw, hT⟩ := hS (by omega)
    exact .inr ⟨hp, hok, by omega, by omega, S, hXS, hSw, hX, hT⟩

/-- .. and back -/
theorem St.valid {w : World} {X n c : Nat} {tch : Int} {t : Nat → Nat × Int} (h : St w X n t c tch) : Tbl.Valid n t (c : Int) := by
  rcases h.2 with ⟨rfl, rfl, _⟩ | ⟨hp, hok, hc, hl, _⟩
  · exact .inl ⟨rfl, rfl⟩
  · exact .inr ⟨hp, hok, by omega, by omega⟩

/-- ZZState of an index in a valid state -/
theorem state_st (X n c : Nat) (tch : Int) (t : Nat → Nat × Int) (w : World) (hn : n ≤ 1048576) (h : St w X n t c tch) :
    Calls Try.prog 12 #[.pointer (some ⟨X, 0, none⟩)] w fun e w' => States w n c tch t e w' := by
  rcases h.2 with ⟨rfl, rfl, a, hX⟩ | ⟨hp, hok, hc, hl, S, hXS, hSw, hX, hT⟩
  · exact state_any X 0 0 a tch t w hn h.1 hX (fun h0 => absurd h0 (by omega))
  · exact state_any X n c _ tch t w hn h.1 hX (fun _ => ⟨S, rfl, hSw, hT⟩)

theorem St.fits {w : World} {X n c : Nat} {tch : Int} {t : Nat → Nat × Int} (h : St w X n t c tch) : n = 0 ∨ ∀ j, (t j).1 < 18446744073709551616 := by
  rcases h.2 with ⟨rfl, _⟩ | ⟨_, _, _, _, _, _, _, _, hT⟩
  · exact .inl rfl
  · exact .inr hT.fits

end Go.Proofs.Qxb6602356a
