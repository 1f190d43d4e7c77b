/-
  The plain law of the SplitMix64 finaliser: numbers alone, no Go in sight.
-/
namespace Go.Proofs.Ybulkahbi.Mx

/-- 'z ^ z>>k'. -/
def sh (k z : Nat) : Nat := z ^^^ z / 2 ^ k
/-- 'x = y ^ x>>k', j times, from x = y. -/
def unsh (k y : Nat) : Nat → Nat
  | 0 => y
  | j + 1 => y ^^^ (unsh k y j) / 2 ^ k

theorem unsh_eq (k z j : Nat) : unsh k (sh k z) j = z ^^^ z / 2 ^ (k * (j + 1)) := by
  induction j with
  | zero => simp [unsh, sh]
  | succ j ih =>
    rw [unsh, ih, sh]
    simp only [← Nat.shiftRight_eq_div_pow]
    rw [Nat.shiftRight_xor_distrib, ← Nat.shiftRight_add, show k * (j + 1) + k = k * (j + 1 + 1) from by rw [Nat.mul_succ k (j+1)]]
    rw [Nat.xor_assoc, ← Nat.xor_assoc (z >>> k) (z >>> k), Nat.xor_self, Nat.zero_xor]

theorem unsh_back (k z n : Nat) (h : z < 2 ^ (k * (n + 1))) : unsh k (sh k z) n = z := by
  rw [unsh_eq, Nat.div_eq_of_lt h, Nat.xor_zero]
theorem sh_lt (k z : Nat) (h : z < 18446744073709551616) : sh k z < 18446744073709551616 :=
  Nat.xor_lt_two_pow (n := 64) h (Nat.lt_of_le_of_lt (Nat.div_le_self _ _) h)
theorem unsh_lt (k y j : Nat) (h : y < 18446744073709551616) : unsh k y j < 18446744073709551616 := by
  induction j with
  | zero => exact h
  | succ j ih => exact Nat.xor_lt_two_pow (n := 64) h (Nat.lt_of_le_of_lt (Nat.div_le_self _ _) ih)
theorem mul_back (z a b : Nat) (h : z < 18446744073709551616) (hab : a * b % 18446744073709551616 = 1) : (z * a % 18446744073709551616) * b % 18446744073709551616 = z := by
  rw [Nat.mod_mul_mod, Nat.mul_assoc, Nat.mul_mod, hab, Nat.mul_one, Nat.mod_mod, Nat.mod_eq_of_lt h]

/-- 'z = (z ^ z>>30) * C'. -/
def m1 (z : Nat) : Nat := sh 30 z * 13787848793156543929 % 18446744073709551616
def m2 (z : Nat) : Nat := sh 27 z * 10723151780598845931 % 18446744073709551616
/-- Mix64. -/
def mix (z : Nat) : Nat := sh 31 (m2 (m1 z))

theorem m1_lt (z : Nat) : m1 z < 18446744073709551616 := Nat.mod_lt _ (by decide)
theorem m2_lt (z : Nat) : m2 z < 18446744073709551616 := Nat.mod_lt _ (by decide)
theorem mix_lt (z : Nat) : mix z < 18446744073709551616 := sh_lt _ _ (m2_lt _)

/-- the inverses of the two constants -/
def I1 : Nat := 10871156337175269513
def I2 : Nat := 3573116690164977347
/-- The inverse. -/
def un1 (y : Nat) : Nat := unsh 31 y 3
def un2 (y : Nat) : Nat := un1 y * I2 % 18446744073709551616
def un3 (y : Nat) : Nat := unsh 27 (un2 y) 3
def un4 (y : Nat) : Nat := un3 y * I1 % 18446744073709551616
def unmix (y : Nat) : Nat := unsh 30 (un4 y) 3

theorem pow_big (z k : Nat) (h : z < 18446744073709551616) (hk : 64 ≤ k) : z < 2 ^ k :=
  Nat.lt_of_lt_of_le (show z < 2 ^ 64 from h) (Nat.pow_le_pow_right (by decide) hk)

theorem unmix_mix (z : Nat) (h : z < 18446744073709551616) : unmix (mix z) = z := by
  have a1 : un1 (mix z) = m2 (m1 z) := unsh_back 31 _ 3 (pow_big _ _ (m2_lt _) (by decide))
  have a2 : un2 (mix z) = sh 27 (m1 z) := by
    unfold un2; rw [a1]; exact mul_back _ _ _ (sh_lt _ _ (m1_lt _)) (by decide)
  have a3 : un3 (mix z) = m1 z := by
    unfold un3; rw [a2]; exact unsh_back 27 _ 3 (pow_big _ _ (m1_lt _) (by decide))
  have a4 : un4 (mix z) = sh 30 z := by
    unfold un4; rw [a3]; exact mul_back _ _ _ (sh_lt _ _ h) (by decide)
  unfold unmix; rw [a4]; exact unsh_back 30 _ 3 (pow_big _ _ h (by decide))

theorem mix_inj (a b : Nat) (ha : a < 18446744073709551616) (hb : b < 18446744073709551616) (h : mix a = mix b) : a = b := by
  rw [← unmix_mix a ha, ← unmix_mix b hb, h]
theorem mix_zero : mix 0 = 0 := by decide
end Go.Proofs.Ybulkahbi.Mx
