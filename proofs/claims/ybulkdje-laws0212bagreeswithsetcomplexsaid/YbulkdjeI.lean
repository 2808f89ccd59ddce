import Derived.Test.YbulkdjeF
namespace Go.Proofs.Ybulkdje
open Ieee
set_option linter.unusedVariables false

theorem log2_mul_pow (a e : Nat) (h : 0 < a) : (a * 2 ^ e).log2 = a.log2 + e := by
  have hne : a * 2 ^ e ≠ 0 := Nat.ne_of_gt (Nat.mul_pos h (Nat.two_pow_pos e))
  have ha : a ≠ 0 := by omega
  rw [Nat.log2_eq_iff hne]
  have h1 := Nat.log2_self_le ha
  have h2 := @Nat.lt_log2_self a
  constructor
  · rw [Nat.pow_add]; exact Nat.mul_le_mul_right _ h1
  · rw [show a.log2 + e + 1 = (a.log2 + 1) + e by omega, Nat.pow_add]
    exact Nat.mul_lt_mul_of_pos_right h2 (Nat.two_pow_pos e)

theorem cut_exact (neg : Bool) (b drop : Nat) (hb : 0 < b) : Toward.even.cut neg (b * 2 ^ drop) drop = b := by
  unfold Toward.cut
  have hl : (b * 2 ^ drop).log2 = b.log2 + drop := log2_mul_pow b drop hb
  have hm : min drop ((b * 2 ^ drop).log2 + 2) = drop := by rw [hl]; omega
  dsimp only
  rw [hm, Nat.shiftLeft_eq, Nat.one_mul]
  have hp : 0 < 2 ^ drop := Nat.two_pow_pos drop
  rw [Nat.mul_div_cancel _ hp, Nat.mul_mod_left]
  have e1 : decide (2 ^ drop < 2 * 0) = false := by simp
  have e2 : (2 ^ drop == 2 * 0) = false := by simp
  rw [e1, e2]
  simp

/-- The word of a whole number below 2^53, however it is written. -/
def wd (neg : Bool) (a : Nat) : Nat := double.word neg ((a.log2 + 1022) * 4503599627370496 + a * 2 ^ (52 - a.log2))

theorem log2_lt (a : Nat) (h : a < 9007199254740992) : a.log2 ≤ 52 := by
  by_cases h0 : a = 0
  · subst h0; decide
  · have : a.log2 < 53 := (Nat.log2_lt h0).2 h
    omega

theorem kept_bounds (a : Nat) (h0 : 0 < a) (h : a < 9007199254740992) : 4503599627370496 ≤ a * 2 ^ (52 - a.log2) ∧ a * 2 ^ (52 - a.log2) < 9007199254740992 := by
  have hl := log2_lt a h
  have h1 := Nat.log2_self_le (n := a) (by omega)
  have h2 := @Nat.lt_log2_self a
  have e1 : 2 ^ a.log2 * 2 ^ (52 - a.log2) = 4503599627370496 := by rw [← Nat.pow_add, show a.log2 + (52 - a.log2) = 52 by omega]
  have e2 : 2 ^ (a.log2 + 1) * 2 ^ (52 - a.log2) = 9007199254740992 := by rw [← Nat.pow_add, show a.log2 + 1 + (52 - a.log2) = 53 by omega]
  constructor
  · rw [← e1]; exact Nat.mul_le_mul_right _ h1
  · rw [← e2]; exact Nat.mul_lt_mul_of_pos_right h2 (Nat.two_pow_pos _)

theorem nearest_int (neg : Bool) (a e : Nat) (h0 : 0 < a) (h : a < 9007199254740992) : double.nearest neg (a * 2 ^ e) (-(e : Int)) = wd neg a := by
  have hl := log2_lt a h
  have hk := kept_bounds a h0 h
  unfold Format.nearest
  rw [if_neg (Nat.ne_of_gt (Nat.mul_pos h0 (Nat.two_pow_pos e)))]
  dsimp only
  rw [log2_mul_pow a e h0, d_lp, show double.fractionBits = 52 from rfl]
  have hlast : max (-(e : Int) + ((a.log2 + e : Nat) : Int) - ((52 : Nat) : Int)) (-1074) = (a.log2 : Int) - 52 := by omega
  rw [hlast]
  have hkept : Toward.even.cut neg ((a * 2 ^ e) <<< (-(e : Int) - ((a.log2 : Int) - 52)).toNat) (((a.log2 : Int) - 52) - -(e : Int)).toNat = a * 2 ^ (52 - a.log2) := by
    by_cases c : e ≤ 52 - a.log2
    · have e1 : (-(e : Int) - ((a.log2 : Int) - 52)).toNat = 52 - a.log2 - e := by omega
      have e2 : (((a.log2 : Int) - 52) - -(e : Int)).toNat = 0 := by omega
      rw [e1, e2, Nat.shiftLeft_eq, Nat.mul_assoc, ← Nat.pow_add, show e + (52 - a.log2 - e) = 52 - a.log2 by omega]
      have := cut_exact neg (a * 2 ^ (52 - a.log2)) 0 (by omega)
      simpa using this
    · have e1 : (-(e : Int) - ((a.log2 : Int) - 52)).toNat = 0 := by omega
      have e2 : (((a.log2 : Int) - 52) - -(e : Int)).toNat = e - (52 - a.log2) := by omega
      rw [e1, e2, Nat.shiftLeft_eq, Nat.pow_zero, Nat.mul_one]
      have := cut_exact neg (a * 2 ^ (52 - a.log2)) (e - (52 - a.log2)) (by omega)
      rwa [Nat.mul_assoc, ← Nat.pow_add, show 52 - a.log2 + (e - (52 - a.log2)) = e by omega] at this
  rw [hkept]
  have e3 : (((a.log2 : Int) - 52) - (-1074)).toNat = a.log2 + 1022 := by omega
  rw [e3, d_bn, d_ir, Nat.min_eq_left (by omega)]
  rfl

theorem read_wd (neg : Bool) (a : Nat) (h0 : 0 < a) (h : a < 9007199254740992) : double.read (wd neg a) = .number neg (a * 2 ^ (52 - a.log2)) (-((52 - a.log2 : Nat) : Int)) := by
  have hl := log2_lt a h
  have hk := kept_bounds a h0 h
  have hw : wd neg a = (if neg then 9223372036854775808 else 0) + ((a.log2 + 1022) * 4503599627370496 + a * 2 ^ (52 - a.log2)) := by
    unfold wd Format.word
    rw [d_sw]
    cases neg <;> simp
  generalize hK : a * 2 ^ (52 - a.log2) = K at *
  generalize a.log2 = l at *
  have hmod : wd neg a % 9223372036854775808 = (l + 1022) * 4503599627370496 + K := by rw [hw]; cases neg <;> simp <;> omega
  have hdiv : wd neg a / 9223372036854775808 % 2 = (if neg then 1 else 0) := by rw [hw]; cases neg <;> simp <;> omega
  unfold Format.read
  dsimp only
  rw [d_sw, d_bn, d_ir, d_lp, hmod, hdiv, if_neg (by omega), if_pos (by omega)]
  have e1 : 4503599627370496 + ((l + 1022) * 4503599627370496 + K) % 4503599627370496 = K := by omega
  have e2 : ((l + 1022) * 4503599627370496 + K) / 4503599627370496 - 1 = l + 1022 := by omega
  rw [e1, e2]
  have e3 : ((if neg = true then 1 else 0) == 1) = neg := by cases neg <;> rfl
  rw [e3]
  exact congrArg (Datum.number neg K) (by omega)

theorem read_0 : double.read 0 = .number false 0 (-1074) := by decide

theorem cutz (neg : Bool) (a d : Nat) : Toward.zero.cut neg (a * 2 ^ d) d = a := by
  unfold Toward.cut
  dsimp only
  by_cases h : a = 0
  · subst h; simp
  · have hl : (a * 2 ^ d).log2 = a.log2 + d := log2_mul_pow a d (by omega)
    have hm : min d ((a * 2 ^ d).log2 + 2) = d := by rw [hl]; omega
    rw [hm, Nat.shiftLeft_eq, Nat.one_mul, Nat.mul_div_cancel _ (Nat.two_pow_pos d)]
    simp

/-- What the walk is told of x, the bits of the whole number i. -/
structure Facts (i : Int) (x : Nat) : Prop where
  ht : ∀ P w, (Extern.MathFloor.toIntegral "math.archTrunc" .zero #[.float .f64 x]).run P w = .ok (.float .f64 x) w
  ho : FloatKind.f64.format.order x x = some .eq
  hge : FloatKind.f64.format.order x 14114281232179134464 = some .gt
  hlt : FloatKind.f64.format.order x 4890909195324358656 = some .lt
  hcv : floatToIntVal .f64 x .i64 = some i

theorem read_min : double.read 14114281232179134464 = .number true 4503599627370496 11 := by decide
theorem read_max : double.read 4890909195324358656 = .number false 4503599627370496 11 := by decide

theorem facts_of (i : Int) (x : Nat) (neg : Bool) (a d : Nat) (hr : double.read x = .number neg (a * 2 ^ d) (-(d : Int))) (hw : double.nearest neg a 0 = x) (ha : a < 9007199254740992) (hi : i = if neg then -(a : Int) else a) : Facts i x := by
  have hint : (Datum.number neg (a * 2 ^ d) (-(d : Int))).integral .zero = .number neg a 0 := by
    show Datum.number neg (Toward.zero.cut neg ((a * 2 ^ d) <<< (-(d : Int)).toNat) (- -(d : Int)).toNat) 0 = _
    have e1 : (-(d : Int)).toNat = 0 := by omega
    have e2 : (- -(d : Int)).toNat = d := by omega
    rw [e1, e2, Nat.shiftLeft_zero, cutz]
  have hlt : a * 2 ^ d < 9223372036854775808 * 2 ^ d := Nat.mul_lt_mul_of_pos_right (by omega) (Nat.two_pow_pos d)
  have hs1 : signed neg (a * 2 ^ d) 0 = if neg then -((a * 2 ^ d : Nat) : Int) else ((a * 2 ^ d : Nat) : Int) := by
    unfold signed; rw [Nat.shiftLeft_zero]
  have hbase : min (-(d : Int)) 11 = -(d : Int) := by omega
  have hsh : (11 - -(d : Int)).toNat = 11 + d := by omega
  have hs0 : (-(d : Int) - -(d : Int)).toNat = 0 := by omega
  have hmag : (4503599627370496 : Nat) <<< (11 + d) = 9223372036854775808 * 2 ^ d := by
    rw [Nat.shiftLeft_eq, Nat.pow_add, ← Nat.mul_assoc]
  refine ⟨?_, ?_, ?_, ?_, ?_⟩
  · intro P w
    have : Extern.MathFloor.toIntegral "math.archTrunc" .zero #[.float .f64 x] = pure (.float .f64 (FloatKind.f64.encode ((FloatKind.f64.decode x).integral .zero))) := by
      unfold Extern.MathFloor.toIntegral
      show (match FloatKind.f64.decode x with | .nan s t => _ | dd => _) = _
      rw [show FloatKind.f64.decode x = .number neg (a * 2 ^ d) (-(d : Int)) from hr]
    rw [this, show FloatKind.f64.decode x = .number neg (a * 2 ^ d) (-(d : Int)) from hr, hint]
    show Result.ok (Value.float .f64 (double.nearest neg a 0)) w = _
    rw [hw]
  · exact order_self x (by unfold nan; rw [hr]; rfl)
  · show (double.read x).order (double.read 14114281232179134464) = some .gt
    rw [hr, read_min]
    show some (compare (signed neg (a * 2 ^ d) (-(d : Int) - min (-(d : Int)) 11).toNat) (signed true 4503599627370496 (11 - min (-(d : Int)) 11).toNat)) = _
    rw [hbase, hs0, hsh, hs1]
    have e : signed true 4503599627370496 (11 + d) = -((9223372036854775808 * 2 ^ d : Nat) : Int) := by
      unfold signed; rw [if_pos rfl, hmag]
    rw [e]
    generalize a * 2 ^ d = A at *
    generalize 9223372036854775808 * 2 ^ d = B at *
    have : -(B : Int) < (if neg then -(A : Int) else A) := by split <;> omega
    generalize (if neg then -(A : Int) else (A : Int)) = u at *
    show some (compareOfLessAndEq _ _) = _
    unfold compareOfLessAndEq
    rw [if_neg (by omega), if_neg (by omega)]
  · show (double.read x).order (double.read 4890909195324358656) = some .lt
    rw [hr, read_max]
    show some (compare (signed neg (a * 2 ^ d) (-(d : Int) - min (-(d : Int)) 11).toNat) (signed false 4503599627370496 (11 - min (-(d : Int)) 11).toNat)) = _
    rw [hbase, hs0, hsh, hs1]
    have e : signed false 4503599627370496 (11 + d) = ((9223372036854775808 * 2 ^ d : Nat) : Int) := by
      unfold signed; rw [if_neg (by decide), hmag]
    rw [e]
    generalize a * 2 ^ d = A at *
    generalize 9223372036854775808 * 2 ^ d = B at *
    have : (if neg then -(A : Int) else A) < (B : Int) := by split <;> omega
    generalize (if neg then -(A : Int) else (A : Int)) = u at *
    show some (compareOfLessAndEq _ _) = _
    unfold compareOfLessAndEq
    rw [if_pos (by omega)]
  · unfold floatToIntVal
    have e : (FloatKind.f64.decode x).toInt .zero = some i := by
      rw [show FloatKind.f64.decode x = .number neg (a * 2 ^ d) (-(d : Int)) from hr]
      unfold Datum.toInt
      rw [hint]
      show some (signed neg a 0) = some i
      unfold signed
      rw [Nat.shiftLeft_zero, hi]
    rw [e]
    have h1 : IntKind.i64.min = -9223372036854775808 := by decide
    have h2 : IntKind.i64.max = 9223372036854775807 := by decide
    show (if IntKind.i64.min ≤ i ∧ i ≤ IntKind.i64.max then some i else none) = some i
    rw [if_pos (by rw [h1, h2, hi]; split <;> omega)]

theorem facts_edge1 : Facts 9007199254740992 (floatOfInt .f64 9007199254740992) := by
  have e : floatOfInt .f64 9007199254740992 = 4845873199050653696 := by kernel_rfl
  rw [e]
  exact ⟨fun P w => by kernel_rfl, by kernel_rfl, by kernel_rfl, by kernel_rfl, by kernel_rfl⟩
theorem facts_edge2 : Facts (-9007199254740992) (floatOfInt .f64 (-9007199254740992)) := by
  have e : floatOfInt .f64 (-9007199254740992) = 14069245235905429504 := by kernel_rfl
  rw [e]
  exact ⟨fun P w => by kernel_rfl, by kernel_rfl, by kernel_rfl, by kernel_rfl, by kernel_rfl⟩
theorem facts_any (i : Int) (h1 : -9007199254740992 ≤ i) (h2 : i ≤ 9007199254740992) : Facts i (floatOfInt .f64 i) := by
  by_cases e1 : i = 9007199254740992
  · subst e1; exact facts_edge1
  by_cases e2 : i = -9007199254740992
  · subst e2; exact facts_edge2
  by_cases e0 : i = 0
  · subst e0
    have e : floatOfInt .f64 0 = 0 := by decide
    rw [e]
    obtain ⟨K, hK⟩ : ∃ K : Nat, K = 1074 := ⟨_, rfl⟩
    exact facts_of 0 0 false 0 K (by rw [read_0, Nat.zero_mul, hK]; rfl) (by decide) (by omega) rfl
  · have hx : floatOfInt .f64 i = wd (decide (i < 0)) i.natAbs := by
      have := nearest_int (decide (i < 0)) i.natAbs 0 (by omega) (by omega)
      rw [Nat.pow_zero, Nat.mul_one] at this
      exact this
    rw [hx]
    refine facts_of i _ (decide (i < 0)) i.natAbs (52 - i.natAbs.log2) (read_wd _ _ (by omega) (by omega)) ?_ (by omega) ?_
    · have := nearest_int (decide (i < 0)) i.natAbs 0 (by omega) (by omega)
      rw [Nat.pow_zero, Nat.mul_one] at this
      exact this
    · by_cases h : i < 0
      · rw [if_pos (by simpa using h)]; omega
      · rw [if_neg (by simpa using h)]; omega
end Go.Proofs.Ybulkdje
