import Derived.Test.YbulkdgmA
namespace Go.Proofs.Ybulkdgm
open Ieee
set_option linter.unusedVariables false

theorem log2_mul_pow (a e : Nat) (h : 0 < a) : (a * 2 ^ e).log2 = a.log2 + e := by
  have hne : a * 2 ^ e ≠ 0 := Nat.ne_of_gt (Nat.mul_pos h (Nat.two_pow_pos e))
  have ha : a ≠ 0 := by omega
  rw [Nat.log2_eq_iff hne]
  have h1 := Nat.log2_self_le ha
  have h2 := @Nat.lt_log2_self a
  constructor
  · rw [Nat.pow_add]; exact Nat.mul_le_mul_right _ h1
  · rw [show a.log2 + e + 1 = (a.log2 + 1) + e by omega, Nat.pow_add]
    exact Nat.mul_lt_mul_of_pos_right h2 (Nat.two_pow_pos e)

theorem cut_exact (neg : Bool) (b drop : Nat) (hb : 0 < b) : Toward.even.cut neg (b * 2 ^ drop) drop = b := by
  unfold Toward.cut
  have hl : (b * 2 ^ drop).log2 = b.log2 + drop := log2_mul_pow b drop hb
  have hm : min drop ((b * 2 ^ drop).log2 + 2) = drop := by rw [hl]; omega
  dsimp only
  rw [hm, Nat.shiftLeft_eq, Nat.one_mul]
  have hp : 0 < 2 ^ drop := Nat.two_pow_pos drop
  rw [Nat.mul_div_cancel _ hp, Nat.mul_mod_left]
  have e1 : decide (2 ^ drop < 2 * 0) = false := by simp
  have e2 : (2 ^ drop == 2 * 0) = false := by simp
  rw [e1, e2]
  simp

/-- The word of a whole number below 2^53, however it is written. -/
def wd (neg : Bool) (a : Nat) : Nat := double.word neg ((a.log2 + 1022) * 4503599627370496 + a * 2 ^ (52 - a.log2))

theorem log2_lt (a : Nat) (h : a < 9007199254740992) : a.log2 ≤ 52 := by
  by_cases h0 : a = 0
  · subst h0; decide
  · have : a.log2 < 53 := (Nat.log2_lt h0).2 h
    omega

theorem kept_bounds (a : Nat) (h0 : 0 < a) (h : a < 9007199254740992) : 4503599627370496 ≤ a * 2 ^ (52 - a.log2) ∧ a * 2 ^ (52 - a.log2) < 9007199254740992 := by
  have hl := log2_lt a h
  have h1 := Nat.log2_self_le (n := a) (by omega)
  have h2 := @Nat.lt_log2_self a
  have e1 : 2 ^ a.log2 * 2 ^ (52 - a.log2) = 4503599627370496 := by rw [← Nat.pow_add, show a.log2 + (52 - a.log2) = 52 by omega]
  have e2 : 2 ^ (a.log2 + 1) * 2 ^ (52 - a.log2) = 9007199254740992 := by rw [← Nat.pow_add, show a.log2 + 1 + (52 - a.log2) = 53 by omega]
  constructor
  · rw [← e1]; exact Nat.mul_le_mul_right _ h1
  · rw [← e2]; exact Nat.mul_lt_mul_of_pos_right h2 (Nat.two_pow_pos _)

theorem nearest_int (neg : Bool) (a e : Nat) (h0 : 0 < a) (h : a < 9007199254740992) : double.nearest neg (a * 2 ^ e) (-(e : Int)) = wd neg a := by
  have hl := log2_lt a h
  have hk := kept_bounds a h0 h
  unfold Format.nearest
  rw [if_neg (Nat.ne_of_gt (Nat.mul_pos h0 (Nat.two_pow_pos e)))]
  dsimp only
  rw [log2_mul_pow a e h0, d_lp, show double.fractionBits = 52 from rfl]
  have hlast : max (-(e : Int) + ((a.log2 + e : Nat) : Int) - ((52 : Nat) : Int)) (-1074) = (a.log2 : Int) - 52 := by omega
  rw [hlast]
  have hkept : Toward.even.cut neg ((a * 2 ^ e) <<< (-(e : Int) - ((a.log2 : Int) - 52)).toNat) (((a.log2 : Int) - 52) - -(e : Int)).toNat = a * 2 ^ (52 - a.log2) := by
    by_cases c : e ≤ 52 - a.log2
    · have e1 : (-(e : Int) - ((a.log2 : Int) - 52)).toNat = 52 - a.log2 - e := by omega
      have e2 : (((a.log2 : Int) - 52) - -(e : Int)).toNat = 0 := by omega
      rw [e1, e2, Nat.shiftLeft_eq, Nat.mul_assoc, ← Nat.pow_add, show e + (52 - a.log2 - e) = 52 - a.log2 by omega]
      have := cut_exact neg (a * 2 ^ (52 - a.log2)) 0 (by omega)
      simpa using this
    · have e1 : (-(e : Int) - ((a.log2 : Int) - 52)).toNat = 0 := by omega
      have e2 : (((a.log2 : Int) - 52) - -(e : Int)).toNat = e - (52 - a.log2) := by omega
      rw [e1, e2, Nat.shiftLeft_eq, Nat.pow_zero, Nat.mul_one]
      have := cut_exact neg (a * 2 ^ (52 - a.log2)) (e - (52 - a.log2)) (by omega)
      rwa [Nat.mul_assoc, ← Nat.pow_add, show 52 - a.log2 + (e - (52 - a.log2)) = e by omega] at this
  rw [hkept]
  have e3 : (((a.log2 : Int) - 52) - (-1074)).toNat = a.log2 + 1022 := by omega
  rw [e3, d_bn, d_ir, Nat.min_eq_left (by omega)]
  rfl

theorem read_wd (neg : Bool) (a : Nat) (h0 : 0 < a) (h : a < 9007199254740992) : double.read (wd neg a) = .number neg (a * 2 ^ (52 - a.log2)) (-((52 - a.log2 : Nat) : Int)) := by
  have hl := log2_lt a h
  have hk := kept_bounds a h0 h
  have hw : wd neg a = (if neg then 9223372036854775808 else 0) + ((a.log2 + 1022) * 4503599627370496 + a * 2 ^ (52 - a.log2)) := by
    unfold wd Format.word
    rw [d_sw]
    cases neg <;> simp
  generalize hK : a * 2 ^ (52 - a.log2) = K at *
  generalize a.log2 = l at *
  have hmod : wd neg a % 9223372036854775808 = (l + 1022) * 4503599627370496 + K := by rw [hw]; cases neg <;> simp <;> omega
  have hdiv : wd neg a / 9223372036854775808 % 2 = (if neg then 1 else 0) := by rw [hw]; cases neg <;> simp <;> omega
  unfold Format.read
  dsimp only
  rw [d_sw, d_bn, d_ir, d_lp, hmod, hdiv, if_neg (by omega), if_pos (by omega)]
  have e1 : 4503599627370496 + ((l + 1022) * 4503599627370496 + K) % 4503599627370496 = K := by omega
  have e2 : ((l + 1022) * 4503599627370496 + K) / 4503599627370496 - 1 = l + 1022 := by omega
  rw [e1, e2]
  have e3 : ((if neg = true then 1 else 0) == 1) = neg := by cases neg <;> rfl
  rw [e3]
  exact congrArg (Datum.number neg K) (by omega)

theorem read_zero (neg : Bool) : double.read (double.word neg 0) = .number neg 0 (-1074) := by cases neg <;> decide

/-- The bits of a whole number. -/
def ofI (n : Int) : Nat := floatOfInt .f64 n
theorem ofI_eq (n : Int) (h0 : n ≠ 0) (h : n.natAbs < 9007199254740992) : ofI n = wd (decide (n < 0)) n.natAbs := by
  have := nearest_int (decide (n < 0)) n.natAbs 0 (by omega) h
  rw [Nat.pow_zero, Nat.mul_one] at this
  exact this
theorem ofI_zero : ofI 0 = 0 := by decide

/-- The datum stands for the whole number n. -/
def RepD (d : Datum) (n : Int) : Prop := ∃ (neg : Bool) (m k : Nat), d = .number neg (m * 2 ^ k) (-(k : Int)) ∧ n = (if neg then -(m : Int) else m)
def Rep (x : Nat) (n : Int) : Prop := RepD (double.read x) n

theorem rep_wd (neg : Bool) (a : Nat) (h0 : 0 < a) (h : a < 9007199254740992) : Rep (wd neg a) (if neg then -(a : Int) else a) :=
  ⟨neg, a, 52 - a.log2, read_wd neg a h0 h, rfl⟩
theorem read_zero' (neg : Bool) : ∃ K : Nat, double.read (double.word neg 0) = .number neg (0 * 2 ^ K) (-(K : Int)) := by
  obtain ⟨K, hK⟩ : ∃ K : Nat, K = 1074 := ⟨_, rfl⟩
  exact ⟨K, by rw [read_zero, Nat.zero_mul, hK]; rfl⟩
theorem rep_zero (neg : Bool) : Rep (double.word neg 0) 0 := by
  obtain ⟨K, hK⟩ := read_zero' neg
  exact ⟨neg, 0, K, hK, by cases neg <;> rfl⟩
theorem rep_ofI (n : Int) (h : n.natAbs < 9007199254740992) : Rep (ofI n) n := by
  by_cases h0 : n = 0
  · subst h0; rw [ofI_zero]; exact rep_zero false
  · rw [ofI_eq n h0 h]
    have := rep_wd (decide (n < 0)) n.natAbs (by omega) h
    by_cases hn : n < 0
    · rw [if_pos (by simpa using hn)] at this
      rwa [show -(n.natAbs : Int) = n by omega] at this
    · rw [if_neg (by simpa using hn)] at this
      rwa [show (n.natAbs : Int) = n by omega] at this
/-- The sign of what stands for n. -/
theorem ofI_neg (n : Int) (h : n.natAbs < 9007199254740992) : ∃ (m k : Nat), double.read (ofI n) = .number (decide (n < 0)) (m * 2 ^ k) (-(k : Int)) ∧ n = (if n < 0 then -(m : Int) else m) := by
  by_cases h0 : n = 0
  · subst h0
    rw [ofI_zero]
    obtain ⟨K, hK⟩ := read_zero' false
    exact ⟨0, K, hK, rfl⟩
  · rw [ofI_eq n h0 h]
    exact ⟨n.natAbs, 52 - n.natAbs.log2, read_wd _ _ (by omega) h, by split <;> omega⟩

theorem write_int (neg : Bool) (N : Int) (D : Nat) (h : N.natAbs < 9007199254740992) (hz : N = 0 → neg = false) (hs : N ≠ 0 → neg = decide (N < 0)) : double.write (.number neg (N.natAbs * 2 ^ D) (-(D : Int))) = ofI N := by
  show double.nearest neg (N.natAbs * 2 ^ D) (-(D : Int)) = _
  by_cases h0 : N = 0
  · subst h0
    rw [hz rfl, ofI_zero, show (0 : Int).natAbs * 2 ^ D = 0 by simp]
    unfold Format.nearest
    rw [if_pos rfl]
    rfl
  · rw [nearest_int neg N.natAbs D (by omega) h, ofI_eq N h0 h, hs h0]

theorem signed_pow (neg : Bool) (m k D : Nat) (h : k ≤ D) : signed neg (m * 2 ^ k) (-(k : Int) - -(D : Int)).toNat = (if neg then -(m : Int) else m) * 2 ^ D := by
  have e : (-(k : Int) - -(D : Int)).toNat = D - k := by omega
  unfold signed
  rw [e, Nat.shiftLeft_eq, Nat.mul_assoc, ← Nat.pow_add, show k + (D - k) = D by omega]
  cases neg <;> simp [Int.neg_mul]

theorem sum_int (s t : Bool) (m k m' k' : Nat) (N : Int) (hN : N = (if s then -(m : Int) else m) + (if t then -(m' : Int) else m')) (h : N.natAbs < 9007199254740992) (hz : N = 0 → (s && t) = false) :
    ((Datum.number s (m * 2 ^ k) (-(k : Int))).sum (.number t (m' * 2 ^ k') (-(k' : Int)))).map double.write = some (ofI N) := by
  unfold Datum.sum
  dsimp only
  have hb : min (-(k : Int)) (-(k' : Int)) = -((max k k' : Nat) : Int) := by omega
  rw [hb, signed_pow s m k _ (Nat.le_max_left _ _), signed_pow t m' k' _ (Nat.le_max_right _ _), ← Int.add_mul, ← hN]
  have hp : (0 : Int) < 2 ^ (max k k') := Int.pow_pos (by decide)
  have habs : (N * 2 ^ (max k k')).natAbs = N.natAbs * 2 ^ (max k k') := by
    rw [Int.natAbs_mul, Int.natAbs_pow]; rfl
  rw [habs, Option.map_some]
  refine congrArg some (write_int _ N _ h ?_ ?_)
  · intro e
    rw [e, Int.zero_mul, if_pos rfl]
    exact hz e
  · intro e
    have hne : N * 2 ^ (max k k') ≠ 0 := Int.mul_ne_zero e (by omega)
    rw [if_neg hne]
    rw [Bool.eq_iff_iff]
    simp only [decide_eq_true_eq]
    constructor
    · intro hlt
      by_cases c : N < 0
      · exact c
      · have : 0 ≤ N * 2 ^ (max k k') := Int.mul_nonneg (by omega) (by omega)
        omega
    · intro hlt
      exact Int.mul_neg_of_neg_of_pos hlt hp

theorem add_int (x y : Nat) (a b : Int) (hx : x = ofI a) (ha : a.natAbs < 9007199254740992) (hy : Rep y b) (h : (a + b).natAbs < 9007199254740992) : fop .add x y = ofI (a + b) := by
  obtain ⟨m, k, hr, hm⟩ := ofI_neg a ha
  obtain ⟨t, m', k', hr', hm'⟩ := hy
  unfold fop
  have : floatBits .add .f64 x y = some (ofI (a + b)) := by
    show ((double.read x).sum (double.read y)).map double.write = _
    rw [hx, hr, hr']
    refine sum_int _ t m k m' k' (a + b) ?_ h ?_
    · rw [← hm']; congr 1
      rw [hm]; by_cases c : a < 0 <;> simp [c] <;> omega
    · intro e
      by_cases c : a < 0
      · have : t = false := by
          cases t with
          | false => rfl
          | true => simp at hm'; omega
        simp [this]
      · simp [c]
  rw [this]; rfl

theorem sub_int (a b : Int) (ha : a.natAbs < 9007199254740992) (hb : b.natAbs < 9007199254740992) (h : (a - b).natAbs < 9007199254740992) : fop .sub (ofI a) (ofI b) = ofI (a - b) := by
  obtain ⟨m, k, hr, hm⟩ := ofI_neg a ha
  obtain ⟨m', k', hr', hm'⟩ := ofI_neg b hb
  unfold fop
  have : floatBits .sub .f64 (ofI a) (ofI b) = some (ofI (a - b)) := by
    show ((double.read (ofI a)).sum (double.read (ofI b)).opposite).map double.write = _
    rw [hr, hr']
    refine sum_int _ (!decide (b < 0)) m k m' k' (a - b) ?_ h ?_
    · by_cases c : a < 0 <;> by_cases c' : b < 0 <;> simp [c, c'] at hm hm' ⊢ <;> omega
    · intro e
      obtain rfl : a = b := by omega
      simp
  rw [this]; rfl

theorem mul_int (x y : Nat) (a b : Int) (hx : Rep x a) (hy : Rep y b) (h : (a * b).natAbs < 9007199254740992) : Rep (fop .mul x y) (a * b) := by
  obtain ⟨s, m, k, hr, hm⟩ := hx
  obtain ⟨t, m', k', hr', hm'⟩ := hy
  have hab : (a * b).natAbs = m * m' := by
    rw [Int.natAbs_mul, hm, hm']
    cases s <;> cases t <;> simp
  have hsgn : a * b = if (s ^^ t) then -((m * m' : Nat) : Int) else ((m * m' : Nat) : Int) := by
    rw [hm, hm']
    cases s <;> cases t <;> simp [Int.neg_mul, Int.mul_neg]
  have e : floatBits .mul .f64 x y = some (double.nearest (s ^^ t) (m * m' * 2 ^ (k + k')) (-((k + k' : Nat) : Int))) := by
    show ((double.read x).product (double.read y)).map double.write = _
    rw [hr, hr']
    show some (double.nearest (s ^^ t) (m * 2 ^ k * (m' * 2 ^ k')) (-(k : Int) + -(k' : Int))) = _
    rw [show m * 2 ^ k * (m' * 2 ^ k') = m * m' * 2 ^ (k + k') by rw [Nat.pow_add]; exact Nat.mul_mul_mul_comm _ _ _ _, show -(k : Int) + -(k' : Int) = -((k + k' : Nat) : Int) by omega]
  unfold fop
  rw [e, Option.getD_some]
  by_cases h0 : m * m' = 0
  · rw [h0, Nat.zero_mul]
    have : double.nearest (s ^^ t) 0 (-((k + k' : Nat) : Int)) = double.word (s ^^ t) 0 := by unfold Format.nearest; rw [if_pos rfl]
    rw [this]
    have hz : a * b = 0 := by omega
    rw [hz]
    exact rep_zero _
  · rw [nearest_int _ (m * m') _ (by omega) (by omega), hsgn]
    exact rep_wd _ _ (by omega) (by omega)

theorem nan_ofI (n : Int) (h : n.natAbs < 9007199254740992) : nan (ofI n) = false := by
  obtain ⟨s, m, k, hr, _⟩ := rep_ofI n h
  unfold nan
  rw [hr]; rfl

/-- The sum's first m terms, in whole numbers. -/
def isum (a : Nat → Int) (mu : Int) (k : Nat) : Nat → Int
  | 0 => 0
  | m + 1 => isum a mu k m + (a (k + m) - mu) * (a m - mu)

theorem mul_bd (x y : Int) (hx : -255 ≤ x ∧ x ≤ 255) (hy : -255 ≤ y ∧ y ≤ 255) : -65025 ≤ x * y ∧ x * y ≤ 65025 := by
  have h1 : x.natAbs * y.natAbs ≤ 255 * 255 := Nat.mul_le_mul (by omega) (by omega)
  rw [← Int.natAbs_mul] at h1
  omega

theorem isum_bd (a : Nat → Int) (mu : Int) (k : Nat) (ha : ∀ i, -128 ≤ a i ∧ a i ≤ 127) (hmu : -128 ≤ mu ∧ mu ≤ 127) : ∀ m : Nat, -(65025 * (m : Int)) ≤ isum a mu k m ∧ isum a mu k m ≤ 65025 * (m : Int)
  | 0 => by simp [isum]
  | m + 1 => by
    have ih := isum_bd a mu k ha hmu m
    have h1 := ha (k + m)
    have h2 := ha m
    have := mul_bd (a (k + m) - mu) (a m - mu) (by omega) (by omega)
    simp only [isum]
    omega

theorem acs_int (a : Nat → Int) (mu : Int) (k : Nat) (ha : ∀ i, -128 ≤ a i ∧ a i ≤ 127) (hmu : -128 ≤ mu ∧ mu ≤ 127) : ∀ m : Nat, m ≤ 1024 → acs (fun i => ofI (a i)) (ofI mu) k m = ofI (isum a mu k m)
  | 0, _ => by simp only [acs, isum]; exact ofI_zero.symm
  | m + 1, hm => by
    have ih := acs_int a mu k ha hmu m (by omega)
    have h1 := ha (k + m)
    have h2 := ha m
    have hb := isum_bd a mu k ha hmu m
    have hp := mul_bd (a (k + m) - mu) (a m - mu) (by omega) (by omega)
    simp only [acs, isum]
    rw [ih, sub_int (a (k + m)) mu (by omega) (by omega) (by omega), sub_int (a m) mu (by omega) (by omega) (by omega)]
    exact add_int _ _ _ _ rfl (by omega) (mul_int _ _ _ _ (rep_ofI _ (by omega)) (rep_ofI _ (by omega)) (by omega)) (by omega)

/-- The n values that are read decide the sum. -/
theorem acs_congr (z z' : Nat → Nat) (mu k : Nat) (n : Nat) (h : ∀ i, i < n → z i = z' i) : ∀ m : Nat, k + m ≤ n → acs z mu k m = acs z' mu k m
  | 0, _ => rfl
  | m + 1, hm => by
    simp only [acs]
    rw [acs_congr z z' mu k n h m (by omega), h (k + m) (by omega), h m (by omega)]
end Go.Proofs.Ybulkdgm
