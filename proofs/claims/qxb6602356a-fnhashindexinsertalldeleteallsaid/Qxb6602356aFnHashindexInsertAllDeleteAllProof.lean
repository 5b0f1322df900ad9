/-
  THE PROOF OF 'Rows.FnHashindexInsertAllDeleteAllSaid'. The frame is the guide's for a law over slices; the one argument, a slice of structs of two numbers, is opened by 'open_slice_pairs'.
-/
import Derived.Test.Qxb6602356aRows
import Derived.Test.Qxb6602356aAll
import Derived.WalkKit
import Derived.ProofKit
import Derived.OpenShut
import Derived.ShutString
import Derived.ChangeOld
import Derived.Below
import Derived.Deep.SlicePairs
namespace Go.Proofs.Qxb6602356a.fnHashindexInsertAllDeleteAll
open Go.ChangeShapes Go.WideShapes Go.ChangeAt Go.RowKit
open Go.Deep
set_option linter.unusedVariables false

theorem own : ownKnob Try.prog.godebug = none := by kernel_rfl
theorem laidOut : laidOutB Try.prog = true := by kernel_rfl

theorem walk (a0 : Option Addr) (len0 cap0 : Nat) (f : Nat → Nat × Int) (w : World) (hl : len0 ≤ 9223372036854775807) (hin : ItemsIn w a0 len0 f) :
    Calls Try.prog 7 #[.slice a0 len0 cap0] w fun e w' => e = .returned (.bool true) ∧ Below w.heap.size w w' := by
  by_cases h : len0 ≤ 65536
  · exact all_short a0 len0 cap0 f w h hin
  · exact all_long a0 len0 cap0 w hl (by omega)

set_option maxRecDepth 100000 in
theorem lifted (os : Os) (started : os.Started) (H : Type) (enc : TypeId × Value → H) :
    ReturnsInHanded {} Try.checked os 7 .any (Rows.fnHashindexInsertAllDeleteAllSpec.pre6 enc Try.prog Try.f7 Rows.fnHashindexInsertAllDeleteAllRow.domain false) (Rows.fnHashindexInsertAllDeleteAllSpec.post enc Try.prog Try.f7 false true false false) := by
  refine returnsInHanded_of_change (C := Try.checked) own started (by kernel_rfl) Try.func7
    (ChangeSpec.witness6 (enc := enc) (C := Try.checked) false ⟨#[], #[.slice none 0 0], []⟩ 8 (by kernel_rfl) (by kernel_rfl) (by kernel_rfl) (by kernel_rfl)) ?_
  intro W base args ds gs before hval0 hW hcnd _
  have hval : ∀ (j : Nat) t v, Try.f7.params[j]? = some t → args[j]? = some v → Value.okWide Try.prog W .any base t v := hval0
  have hW' := hW
  obtain ⟨p, q, hA0, hV, rfl, hfz, hnd⟩ := hW
  have hA : DataW.TrodAll enc Try.prog W 0 (fun _ => true) true Try.f7.params.toList args.toList ds p := hA0
  rw [Try.params7] at hA hval
  obtain ⟨v0, vs0, d0, ds0, p0, q0, hargs, rfl, rfl, h0, r0⟩ := trodAll_cons hA
  obtain ⟨rfl, rfl, rfl⟩ := trodAll_nil r0
  obtain rfl : args = #[v0] := by cases args; simp_all
  obtain ⟨rfl, rfl⟩ := trodVars_none hV
  obtain ⟨a0, len0, cap0, rfl⟩ := okWide_slice Try.underlying44 (hval 0 44 v0 rfl rfl)
  have k0 := h0
  have lt0 : ∀ x ∈ p0, x.block < W.heap.size := by obtain ⟨m, hm⟩ := k0; exact DataW.trod_lt m _ _ _ hm
  obtain ⟨f, hl0, w0⟩ : ∃ f, len0 ≤ 9223372036854775807 ∧ ItemsIn W a0 len0 f := by
    obtain ⟨fuel, hf⟩ := h0
    rcases open_slice_pairs Try.underlying44 Try.underlying50 (by kernel_rfl) rfl rfl (by kernel_rfl) (by kernel_rfl) hf with ⟨hcs, _⟩ | ⟨x, l, c, m, n, V0, V1, D0, D1, P0, P1, hcs, _, hl, hm, hmm, _, hcell⟩
    · simp [Value.cells] at hcs
      obtain ⟨rfl, rfl, rfl⟩ := hcs
      exact ⟨fun _ => (0, 0), by omega, fun _ => by show 0 < _; omega, fun h => absurd h (by omega)⟩
    · simp [Value.cells] at hcs
      obtain ⟨rfl, rfl, rfl⟩ := hcs
      simp at hmm
      subst hmm
      unfold maxLen at hm
      have hU : ∀ j, j < len0 → ∃ z : Nat, z < 18446744073709551616 ∧ V0 j = .int .u64 (z : Int) := fun j hj => by
        obtain ⟨_, _, t0, _⟩ := hcell j (by omega)
        obtain ⟨z, e0, _, wz⟩ := DataW.trod_int Try.underlying24 t0
        obtain ⟨b0, b1⟩ := bounds_u64 wz
        simp at e0
        exact ⟨z.toNat, by omega, by rw [e0, Int.toNat_of_nonneg b0]⟩
      have hI : ∀ j, j < len0 → ∃ z : Int, V1 j = .int .i64 z := fun j hj => by
        obtain ⟨_, _, _, t1⟩ := hcell j (by omega)
        obtain ⟨z, e0, _, _⟩ := DataW.trod_int Try.underlying3 t1
        simp at e0
        exact ⟨z, e0⟩
      refine ⟨fun j => if j < len0 then ((intOf (V0 j)).toNat, intOf (V1 j)) else (0, 0), by omega, fun j => ?_, fun h0 => ?_⟩
      · by_cases hj : j < len0
        · obtain ⟨z, hz, e⟩ := hU j hj
          simp only [if_pos hj, e, intOf, Int.toNat_natCast]; exact hz
        · simp only [if_neg hj]; omega
      · obtain ⟨b, off, spot⟩ := x
        have hc := (hcell 0 (by omega)).1
        have hspot : spot = none := by simpa [Addr.add] using World.cell?_spot hc
        subst hspot
        have hadd : ∀ j, (⟨b, off, none⟩ : Addr).add j = ⟨b, off + j, none⟩ := fun j => by
          by_cases h : j = 0 <;> simp [Addr.add, h]
        have hb : b < W.heap.size := by have h1 := World.block_lt_of_cell? _ _ hc; rw [hadd] at h1; exact h1
        refine ⟨b, off, rfl, hb, fun j hj => ?_, fun j hj => ?_⟩
        · obtain ⟨z, hz, e⟩ := hU j hj
          have h1 := (hcell j (by omega)).1
          rw [hadd, e] at h1
          simp only [if_pos hj, e, intOf, Int.toNat_natCast]
          exact h1
        · obtain ⟨z, e⟩ := hI j hj
          have h1 := (hcell j (by omega)).2.1
          rw [hadd, ← Nat.add_assoc, e] at h1
          simp only [if_pos hj, e, intOf]
          exact h1
  clear hA0 hval0
  refine (walk a0 len0 cap0 f W hl0 w0).mono fun e W' ⟨he, bel⟩ => ?_
  subst he
  exact ⟨_, rfl, _, _, _, [], _, [], hW', trodAll_mk1 (shut_bool Try.underlying4 _), (trodAll_cons_mk (Below.trod laidOut (by kernel_rfl) (of_decide_eq_true (by kernel_rfl)) k0 bel lt0) trodAll_mk0), rfl, bel.frame _, fun h => by cases h⟩

theorem over : Rows.fnHashindexInsertAllDeleteAllRow.holds Try.pinned (OpenSpec.ofChange Rows.fnHashindexInsertAllDeleteAllSpec) :=
  OpenClaim.holds_of_wide 7 Try.f7 rfl rfl rfl rfl rfl rfl rfl ⟨rfl, rfl, rfl, rfl, rfl⟩ rfl rfl rfl rfl rfl (by kernel_rfl) Try.func7 (by kernel_rfl)
    (of_decide_eq_true (by kernel_rfl)) (by unfold Func.isWrapper; first | (rw [if_pos (by decide +kernel)]; kernel_rfl) | (rw [if_neg (by decide +kernel)]; exact ⟨rfl, rfl⟩))
    (fun os started H enc _ => lifted os started H enc)

/-- THE STATEMENT -/
theorem proved : Rows.FnHashindexInsertAllDeleteAllSaid := over
#print axioms proved
end Go.Proofs.Qxb6602356a.fnHashindexInsertAllDeleteAll
