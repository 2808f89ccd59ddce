import Derived.Test.YbulkdfyW2
import Derived.Test.YbulkdfyMath
import Derived.RangeFuncNested
import Derived.RangeFuncBound
import Derived.RangeFuncCalls
import Derived.RangeFuncLeaves
import Derived.Shelf.Abstract
import Derived.Shelf.RegionOpen
import Derived.OwnWalkIn
import Derived.TacticsInMore
import Derived.LoopNIn
import Derived.LoopIn
namespace Go.Proofs.Ybulkdfy
open Go.RowKit Go.Shelf
set_option linter.unusedVariables false
attribute [local go_sem] Oper.semAt_some

/-- An index of a word, and a mask. -/
abbrev MW := { p : Nat × Nat // p.1 < 15625 ∧ p.2 < 18446744073709551616 }
def encMW (x : MW) : Array Value := #[.int .i64 (x.1.1 : Int), .int .u64 (x.1.2 : Int)]
def KpB (B1 B2 : Nat) (W W' : World) : Prop := (∀ v, W.cell? ⟨B1, 0, none⟩ = some v → W'.cell? ⟨B1, 0, none⟩ = some v) ∧ (∀ v, W.cell? ⟨B2, 0, none⟩ = some v → W'.cell? ⟨B2, 0, none⟩ = some v)
def pairs (lo hi k : Nat) : List (Nat × Nat) := (List.range k).map fun j => (lo / 64 + j, M lo hi (lo / 64 + j))
theorem pairs_succ (lo hi k : Nat) : pairs lo hi (k + 1) = pairs lo hi k ++ [(lo / 64 + k, M lo hi (lo / 64 + k))] := by simp [pairs, List.range_succ]

theorem pairs_step (lo hi k : Nat) (ys : List MW) (hk0 : lo / 64 ≤ k) (h : ys.map (·.1) = pairs lo hi (k - lo / 64)) (hx) : (ys ++ [(⟨(k, M lo hi k), hx⟩ : MW)]).map (·.1) = pairs lo hi (k + 1 - lo / 64) := by
  rw [List.map_append, h, show k + 1 - lo / 64 = (k - lo / 64) + 1 by omega, pairs_succ, show lo / 64 + (k - lo / 64) = k by omega]
  rfl
theorem pairs_len (lo hi k : Nat) (ys : List MW) (h : ys.map (·.1) = pairs lo hi (k - lo / 64)) : ys.length = k - lo / 64 := by
  have := congrArg List.length h
  simpa [pairs] using this

theorem wrapE (n : Nat) : IntKind.u64.wrap ((n : Nat) : Int) = ((n % 18446744073709551616 : Nat) : Int) := by rw [IntKind.wrap_u64]; omega
theorem shlE (e : Nat) : IntKind.u64.wrap (18446744073709551615 * 2 ^ e) = ((18446744073709551615 * 2 ^ e % 18446744073709551616 : Nat) : Int) := by
  rw [← wrapE]; simp
theorem shrE (e : Nat) : (18446744073709551615 : Int) / 2 ^ e = ((18446744073709551615 / 2 ^ e : Nat) : Int) := by simp
theorem wraps_u64 (n : Int) (h₀ : 0 ≤ n) (h₁ : n < 2 ^ 64) : IntKind.u64.wrap n = n := by rw [IntKind.wrap_u64]; omega
theorem bitsE (a b : Nat) (ha : a < 18446744073709551616) (hb : b < 18446744073709551616) :
    bits .and .u64 (a : Int) (b : Int) = ((a &&& b : Nat) : Int) ∧ bits .or .u64 (a : Int) (b : Int) = ((a ||| b : Nat) : Int) := by
  have h := bits_nat .u64 64 (by decide) wraps_u64 a b ha hb
  exact ⟨h.1, h.2⟩
theorem E_first (lo hi k : Nat) (h1 : k = lo / 64) (h2 : k < hi / 64) : ((M lo hi k : Nat) : Int) = IntKind.u64.wrap (18446744073709551615 * 2 ^ (lo % 64)) := by
  rw [shlE, M_first lo hi k h1 h2]
theorem E_last (lo hi k : Nat) (h1 : lo / 64 < k) (h2 : k = hi / 64) : ((M lo hi k : Nat) : Int) = bits .and .u64 18446744073709551615 (18446744073709551615 / 2 ^ (63 - hi % 64)) := by
  rw [shrE, M_last lo hi k h1 h2]
  have := (bitsE 18446744073709551615 (M lo hi k) (by decide) (M_lt lo hi k)).1
  rw [show ((18446744073709551615 : Nat) : Int) = 18446744073709551615 from rfl] at this
  rw [this]
  congr 1
  refine Nat.eq_of_testBit_eq fun j => ?_
  rw [Nat.testBit_and, M_testBit, show (18446744073709551615 : Nat) = 2 ^ 64 - 1 from rfl, Nat.testBit_two_pow_sub_one]
  by_cases h : j < 64 <;> simp [h]
theorem E_both (lo hi k : Nat) (h1 : k = lo / 64) (h2 : k = hi / 64) : ((M lo hi k : Nat) : Int) = bits .and .u64 (IntKind.u64.wrap (18446744073709551615 * 2 ^ (lo % 64))) (18446744073709551615 / 2 ^ (63 - hi % 64)) := by
  rw [shlE, shrE, (bitsE _ _ (Nat.mod_lt _ (by decide)) (Nat.lt_of_le_of_lt (Nat.div_le_self _ _) (by decide))).1, M_both lo hi k h1 h2]
theorem E_all (lo hi k : Nat) (h1 : lo / 64 < k) (h2 : k < hi / 64) : ((M lo hi k : Nat) : Int) = 18446744073709551615 := by
  rw [M_all lo hi k (by omega) (by omega)]; rfl

set_option maxRecDepth 100000 in
set_option maxHeartbeats 2000000 in
theorem words1_in (n : Nat) (hn : 1 ≤ n) (l B1 B2 lo hi : Nat) (hlh : lo ≤ hi) (hhi : hi < 1000000) (J Jx : List MW → World → Prop)
    (hY : ∀ pre x W, J pre W → pre.length < 15625 → YieldAt Fence.wide (n - 1) Yba.prog l (encMW x) W fun e W' =>
      (e = .returned (.bool true) ∧ J (pre ++ [x]) W' ∧ KpB B1 B2 W W') ∨ (e = .returned (.bool false) ∧ Jx (pre ++ [x]) W'))
    (W : World) (h1 : W.cell? ⟨B1, 0, none⟩ = some (.int .i64 lo)) (h2 : W.cell? ⟨B2, 0, none⟩ = some (.int .i64 hi)) (h0 : J [] W) :
    CallsIn Fence.wide n Yba.prog 13 #[.func (.yield l) #[] #[], .pointer (some ⟨B1, 0, none⟩), .pointer (some ⟨B2, 0, none⟩)] W fun e W' => (∃ v, e = .returned v) ∧
      ((∃ ys : List MW, ys.map (·.1) = pairs lo hi (hi / 64 + 1 - lo / 64) ∧ J ys W') ∨ (∃ pre, True ∧ Jx pre W')) := by
  refine callsIn_of_wp Yba.func13 rfl trivial ?_ rfl
  simp only [Yba.ntmps13, List.size_toArray, List.length_cons, List.length_nil, Nat.reduceAdd, Nat.reduceSub, Array.replicate_succ, Array.replicate_zero, List.push_toArray, List.append_toArray, List.nil_append, List.cons_append]
  gi_wp2
  gi_loopw [4] (fun i wr => ∃ (k : Nat) (ys : List MW), lo / 64 ≤ k ∧ k ≤ hi / 64 + 1 ∧ i = .int .i64 k ∧ ys.map (·.1) = pairs lo hi (k - lo / 64) ∧ J ys wr ∧ wr.cell? ⟨B1, 0, none⟩ = some (.int .i64 lo) ∧ wr.cell? ⟨B2, 0, none⟩ = some (.int .i64 hi))
    (fun i _ => hi / 64 + 1 - (intOf i).toNat)
  case atStart => exact ⟨lo / 64, [], Nat.le_refl _, by omega, by simp, by simp [pairs], h0, h1, h2⟩
  case round =>
    obtain ⟨k, ys, hk0, hk, rfl, hys, hJs, hc1, hc2⟩ := hrel
    have HYS : Hid (ys.map (·.1) = pairs lo hi (k - lo / 64)) := hys
    clear hys
    by_cases hlt : k ≤ hi / 64
    · have t0 : (k : Int) ≤ hi / 64 := by omega
      have hx : k < 15625 ∧ M lo hi k < 18446744073709551616 := ⟨by omega, M_lt lo hi k⟩
      obtain ⟨fn, tmps, assign, body, hy, hR⟩ := hY ys ⟨(k, M lo hi k), hx⟩ wr hJs (by rw [pairs_len lo hi k ys HYS.out]; omega)
      simp only [encMW] at hy
      by_cases e1 : k = lo / 64
      · have b1 : ((k : Int) == (lo : Int) / 64) = true := by simp; omega
        by_cases e2 : k = hi / 64
        · have b2 : ((k : Int) == (hi : Int) / 64) = true := by simp; omega
          rw [E_both lo hi k e1 e2] at hy
          clear e1 e2
          gi_wp2
          refine hR.mono ?_
          rintro e W3 (⟨rfl, hJ3, hk3⟩ | ⟨rfl, hJx3⟩)
          · have hc31 := hk3.1 _ hc1
            have hc32 := hk3.2 _ hc2
            gi_wp2
            go_roundw
            case rel => exact ⟨k + 1, _, by omega, by omega, by go_num, pairs_step lo hi k ys hk0 HYS.out hx, hJ3, hc31, hc32⟩
            case measure => simp [intOf]; omega
          · gi_wp2
            refine bodyPost_ret (results_none rfl _ _ _) rfl ?_
            exact ⟨⟨_, rfl⟩, .inr ⟨_, trivial, hJx3⟩⟩
        · have b2 : ((k : Int) == (hi : Int) / 64) = false := by simp; omega
          rw [E_first lo hi k e1 (by omega)] at hy
          clear e1 e2
          gi_wp2
          refine hR.mono ?_
          rintro e W3 (⟨rfl, hJ3, hk3⟩ | ⟨rfl, hJx3⟩)
          · have hc31 := hk3.1 _ hc1
            have hc32 := hk3.2 _ hc2
            gi_wp2
            go_roundw
            case rel => exact ⟨k + 1, _, by omega, by omega, by go_num, pairs_step lo hi k ys hk0 HYS.out hx, hJ3, hc31, hc32⟩
            case measure => simp [intOf]; omega
          · gi_wp2
            refine bodyPost_ret (results_none rfl _ _ _) rfl ?_
            exact ⟨⟨_, rfl⟩, .inr ⟨_, trivial, hJx3⟩⟩
      · have b1 : ((k : Int) == (lo : Int) / 64) = false := by simp; omega
        by_cases e2 : k = hi / 64
        · have b2 : ((k : Int) == (hi : Int) / 64) = true := by simp; omega
          rw [E_last lo hi k (by omega) e2] at hy
          clear e1 e2
          gi_wp2
          refine hR.mono ?_
          rintro e W3 (⟨rfl, hJ3, hk3⟩ | ⟨rfl, hJx3⟩)
          · have hc31 := hk3.1 _ hc1
            have hc32 := hk3.2 _ hc2
            gi_wp2
            go_roundw
            case rel => exact ⟨k + 1, _, by omega, by omega, by go_num, pairs_step lo hi k ys hk0 HYS.out hx, hJ3, hc31, hc32⟩
            case measure => simp [intOf]; omega
          · gi_wp2
            refine bodyPost_ret (results_none rfl _ _ _) rfl ?_
            exact ⟨⟨_, rfl⟩, .inr ⟨_, trivial, hJx3⟩⟩
        · have b2 : ((k : Int) == (hi : Int) / 64) = false := by simp; omega
          rw [E_all lo hi k (by omega) (by omega)] at hy
          clear e1 e2
          gi_wp2
          refine hR.mono ?_
          rintro e W3 (⟨rfl, hJ3, hk3⟩ | ⟨rfl, hJx3⟩)
          · have hc31 := hk3.1 _ hc1
            have hc32 := hk3.2 _ hc2
            gi_wp2
            go_roundw
            case rel => exact ⟨k + 1, _, by omega, by omega, by go_num, pairs_step lo hi k ys hk0 HYS.out hx, hJ3, hc31, hc32⟩
            case measure => simp [intOf]; omega
          · gi_wp2
            refine bodyPost_ret (results_none rfl _ _ _) rfl ?_
            exact ⟨⟨_, rfl⟩, .inr ⟨_, trivial, hJx3⟩⟩
    · have t0 : ¬ (k : Int) ≤ hi / 64 := by omega
      gi_wp2
      go_end0
      obtain rfl : k = hi / 64 + 1 := by omega
      exact ⟨⟨_, rfl⟩, .inl ⟨ys, HYS.out, hJs⟩⟩

theorem words_stops (n : Nat) (hn : 1 ≤ n) (B1 B2 lo hi : Nat) (hlh : lo ≤ hi) (hhi : hi < 1000000) (w : World) (hb1 : B1 < w.heap.size) (hb2 : B2 < w.heap.size)
    (h1 : w.cell? ⟨B1, 0, none⟩ = some (.int .i64 lo)) (h2 : w.cell? ⟨B2, 0, none⟩ = some (.int .i64 hi)) :
    SeqStopsK Fence.wide n Yba.prog 13 #[.pointer (some ⟨B1, 0, none⟩), .pointer (some ⟨B2, 0, none⟩)] encMW (KpB B1 B2) (fun ys => ys.map (·.1) = pairs lo hi (hi / 64 + 1 - lo / 64)) (fun _ => True) 15625 w :=
  fun l J Jx W hW _ _ hY h0 => words1_in n hn l B1 B2 lo hi hlh hhi J Jx hY W ((hW.cell (p := ⟨B1, 0, none⟩) hb1).trans h1) ((hW.cell (p := ⟨B2, 0, none⟩) hb2).trans h2) h0

end Go.Proofs.Ybulkdfy
