namespace Go.Proofs.Ybulkdfy

/-- The number whose bit j, j < n, is f j. -/
def mk (f : Nat → Bool) : Nat → Nat
  | 0 => 0
  | n + 1 => mk f n ||| (if f n then 2 ^ n else 0)

theorem mk_testBit (f : Nat → Bool) (n j : Nat) : (mk f n).testBit j = (decide (j < n) && f j) := by
  induction n with
  | zero => simp [mk]
  | succ n ih =>
    simp only [mk, Nat.testBit_or, ih]
    by_cases h : f n = true
    · simp only [h, if_true, Nat.testBit_two_pow]
      by_cases e : n = j
      · subst e; simp [h]
      · have h1 : decide (j < n + 1) = decide (j < n) := by simp; omega
        simp [e, h1]
    · simp only [h]
      by_cases e : n = j
      · subst e; simp at h; simp [h]
      · have h1 : decide (j < n + 1) = decide (j < n) := by simp; omega
        simp [h1]

theorem mk_lt (f : Nat → Bool) (n : Nat) : mk f n < 2 ^ n := by
  refine Nat.lt_pow_two_of_testBit _ fun i hi => ?_
  rw [mk_testBit]; simp; omega

def inR (lo hi base b : Nat) : Bool := decide (lo ≤ base + b) && decide (base + b ≤ hi)
/-- Word i of the bits of [lo, hi]. -/
def M (lo hi i : Nat) : Nat := mk (inR lo hi (64 * i)) 64

theorem M_testBit (lo hi i j : Nat) : (M lo hi i).testBit j = (decide (j < 64) && (decide (lo ≤ 64 * i + j) && decide (64 * i + j ≤ hi))) := mk_testBit _ _ _
theorem M_lt (lo hi i : Nat) : M lo hi i < 18446744073709551616 := mk_lt _ 64

theorem M_all (lo hi i : Nat) (h1 : lo ≤ 64 * i) (h2 : 64 * i + 63 ≤ hi) : M lo hi i = 18446744073709551615 := by
  refine Nat.eq_of_testBit_eq fun j => ?_
  rw [M_testBit, show (18446744073709551615 : Nat) = 2 ^ 64 - 1 from rfl, Nat.testBit_two_pow_sub_one]
  by_cases h : j < 64
  · simp [h]; omega
  · simp [h]

theorem M_none (lo hi i : Nat) (h : 64 * i + 63 < lo ∨ hi < 64 * i) : M lo hi i = 0 := by
  refine Nat.eq_of_testBit_eq fun j => ?_
  rw [M_testBit, Nat.zero_testBit]
  by_cases h : j < 64
  · simp [h]; omega
  · simp [h]

theorem M_first (lo hi i : Nat) (h1 : i = lo / 64) (h2 : i < hi / 64) : 18446744073709551615 * 2 ^ (lo % 64) % 18446744073709551616 = M lo hi i := by
  refine Nat.eq_of_testBit_eq fun j => ?_
  rw [M_testBit, show (18446744073709551616 : Nat) = 2 ^ 64 from rfl, Nat.testBit_mod_two_pow, Nat.testBit_mul_two_pow, show (18446744073709551615 : Nat) = 2 ^ 64 - 1 from rfl, Nat.testBit_two_pow_sub_one]
  by_cases h : j < 64
  · have e : decide (64 * i + j ≤ hi) = true := by simp; omega
    rw [e, Bool.eq_iff_iff]
    simp [h]
    omega
  · simp [h]

theorem M_last (lo hi i : Nat) (h1 : lo / 64 < i) (h2 : i = hi / 64) : 18446744073709551615 / 2 ^ (63 - hi % 64) = M lo hi i := by
  refine Nat.eq_of_testBit_eq fun j => ?_
  rw [M_testBit, Nat.testBit_div_two_pow, show (18446744073709551615 : Nat) = 2 ^ 64 - 1 from rfl, Nat.testBit_two_pow_sub_one]
  rw [Bool.eq_iff_iff]
  simp
  omega

theorem M_both (lo hi i : Nat) (h1 : i = lo / 64) (h2 : i = hi / 64) : (18446744073709551615 * 2 ^ (lo % 64) % 18446744073709551616) &&& (18446744073709551615 / 2 ^ (63 - hi % 64)) = M lo hi i := by
  refine Nat.eq_of_testBit_eq fun j => ?_
  rw [M_testBit, Nat.testBit_and, show (18446744073709551616 : Nat) = 2 ^ 64 from rfl, Nat.testBit_mod_two_pow, Nat.testBit_mul_two_pow, Nat.testBit_div_two_pow, show (18446744073709551615 : Nat) = 2 ^ 64 - 1 from rfl, Nat.testBit_two_pow_sub_one]
  rw [Nat.testBit_two_pow_sub_one, Bool.eq_iff_iff]
  simp
  omega
end Go.Proofs.Ybulkdfy
