/-
  THE PLAIN LAW OF THE HASH: no Go in sight. FNV-1a over bytes, the finalizer, its inverse; two keys of one length that differ in one byte never share a hash.
-/
namespace Go.Proofs.Qxb6602307a.Hash

/-- one step of FNV-1a on numbers below 2^64 -/
def step (h c : Nat) : Nat := (h ^^^ c) * 1099511628211 % 18446744073709551616
/-- the state behind the bytes 'l', begun at 'h' -/
def run (h : Nat) : List UInt8 → Nat
  | [] => h
  | c :: l => run (step h c.toNat) l
def fnv (l : List UInt8) : Nat := run 14695981039346656037 l
def sh (x : Nat) : Nat := x ^^^ x / 8589934592
def mul (x c : Nat) : Nat := x * c % 18446744073709551616
def mix (x : Nat) : Nat := sh (mul (sh (mul (sh x) 18397679294719823053)) 14181476777654086739)
def hk (l : List UInt8) : Nat := mix (fnv l)

theorem xor_lt {a b : Nat} (ha : a < 18446744073709551616) (hb : b < 18446744073709551616) : a ^^^ b < 18446744073709551616 :=
  Nat.xor_lt_two_pow (n := 64) ha hb

theorem byte_lt (c : UInt8) : c.toNat < 18446744073709551616 := by have := c.toNat_lt; omega

theorem step_lt (h c : Nat) : step h c < 18446744073709551616 := Nat.mod_lt _ (by omega)

theorem run_lt : ∀ (l : List UInt8) (h : Nat), h < 18446744073709551616 → run h l < 18446744073709551616
  | [], _, hh => hh
  | c :: l, h, _ => run_lt l (step h c.toNat) (step_lt _ _)

theorem fnv_lt (l : List UInt8) : fnv l < 18446744073709551616 := run_lt l _ (by omega)

theorem run_append : ∀ (l m : List UInt8) (h : Nat), run h (l ++ m) = run (run h l) m
  | [], _, _ => rfl
  | c :: l, m, h => run_append l m (step h c.toNat)

theorem fnv_snoc (l : List UInt8) (c : UInt8) : fnv (l ++ [c]) = step (fnv l) c.toNat := by
  unfold fnv; rw [run_append]; rfl

theorem sh_lt {x : Nat} (h : x < 18446744073709551616) : sh x < 18446744073709551616 :=
  xor_lt h (by omega)

theorem mul_lt (x c : Nat) : mul x c < 18446744073709551616 := Nat.mod_lt _ (by omega)

/-- a xorshift by 33 is its own inverse on 64 bits -/
theorem sh_sh {x : Nat} (h : x < 18446744073709551616) : sh (sh x) = x := by
  unfold sh
  have e : ∀ y : Nat, y / 8589934592 = y >>> 33 := fun y => by rw [Nat.shiftRight_eq_div_pow]
  have z : x >>> 33 >>> 33 = 0 := by
    rw [← Nat.shiftRight_add, Nat.shiftRight_eq_div_pow]
    exact Nat.div_eq_of_lt (Nat.lt_of_lt_of_le h (by decide))
  rw [e x, e, Nat.shiftRight_xor_distrib, z, Nat.xor_zero, Nat.xor_assoc, Nat.xor_self, Nat.xor_zero]

theorem mul_inv {x c d : Nat} (h : x < 18446744073709551616) (hcd : c * d % 18446744073709551616 = 1) : mul (mul x c) d = x := by
  unfold mul
  rw [Nat.mod_mul_mod, Nat.mul_assoc, Nat.mul_mod, hcd, Nat.mul_one, Nat.mod_mod]
  exact Nat.mod_eq_of_lt h

def unmix (x : Nat) : Nat := sh (mul (sh (mul (sh x) 11291846944257947611)) 5725274745694666757)

theorem unmix_mix {x : Nat} (h : x < 18446744073709551616) : unmix (mix x) = x := by
  unfold unmix mix
  rw [sh_sh (mul_lt _ _), mul_inv (sh_lt (mul_lt _ _)) (by decide), sh_sh (mul_lt _ _), mul_inv (sh_lt h) (by decide), sh_sh h]

theorem mix_inj {x y : Nat} (hx : x < 18446744073709551616) (hy : y < 18446744073709551616) (h : mix x = mix y) : x = y := by
  rw [← unmix_mix hx, ← unmix_mix hy, h]

theorem xor_back (a b : Nat) : (a ^^^ b) ^^^ b = a := by rw [Nat.xor_assoc, Nat.xor_self, Nat.xor_zero]

theorem prime_inj {x y : Nat} (hx : x < 18446744073709551616) (hy : y < 18446744073709551616)
    (h : x * 1099511628211 % 18446744073709551616 = y * 1099511628211 % 18446744073709551616) : x = y := by
  have ex := mul_inv (c := 1099511628211) (d := 14886173955864302971) hx (by decide)
  have ey := mul_inv (c := 1099511628211) (d := 14886173955864302971) hy (by decide)
  unfold mul at ex ey
  rw [← ex, ← ey, h]

theorem step_inj_state {a b c : Nat} (ha : a < 18446744073709551616) (hb : b < 18446744073709551616) (hc : c < 18446744073709551616) (h : step a c = step b c) : a = b := by
  have e := prime_inj (xor_lt ha hc) (xor_lt hb hc) h
  rw [← xor_back a c, ← xor_back b c, e]

theorem step_inj_byte {a c d : Nat} (ha : a < 18446744073709551616) (hc : c < 18446744073709551616) (hd : d < 18446744073709551616) (h : step a c = step a d) : c = d := by
  have e := prime_inj (xor_lt ha hc) (xor_lt ha hd) h
  rw [← xor_back c a, ← xor_back d a, Nat.xor_comm c a, Nat.xor_comm d a, e]

theorem run_inj : ∀ (l : List UInt8) {a b : Nat}, a < 18446744073709551616 → b < 18446744073709551616 → run a l = run b l → a = b
  | [], _, _, _, _, h => h
  | c :: l, _, _, ha, hb, h => step_inj_state ha hb (byte_lt c) (run_inj l (step_lt _ _) (step_lt _ _) h)

/-- THE LAW: two keys that differ in one byte have two hashes. -/
theorem hk_differs (p r : List UInt8) {c d : UInt8} (h : hk (p ++ c :: r) = hk (p ++ d :: r)) : c = d := by
  have e := mix_inj (fnv_lt _) (fnv_lt _) h
  unfold fnv at e
  rw [run_append, run_append] at e
  have e2 : step (run 14695981039346656037 p) c.toNat = step (run 14695981039346656037 p) d.toNat := run_inj r (step_lt _ _) (step_lt _ _) e
  exact UInt8.toNat_inj.1 (step_inj_byte (run_lt p _ (by omega)) (byte_lt c) (byte_lt d) e2)

theorem hk_lt (l : List UInt8) : hk l < 18446744073709551616 := sh_lt (mul_lt _ _)

theorem hk_set {l : List UInt8} {i : Nat} (hi : i < l.length) {c : UInt8} (hne : l[i] ≠ c) : hk l ≠ hk (l.set i c) := by
  intro h
  have e1 : l = l.take i ++ l[i] :: l.drop (i + 1) := by simp
  have e2 : l.set i c = l.take i ++ c :: l.drop (i + 1) := by rw [List.set_eq_take_append_cons_drop, if_pos hi]
  apply hne
  apply hk_differs (l.take i) (l.drop (i + 1))
  rw [← e1, ← e2]; exact h

end Go.Proofs.Qxb6602307a.Hash
