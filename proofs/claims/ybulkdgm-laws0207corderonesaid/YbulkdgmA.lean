import Derived.Test.YbulkdgmFl
import Derived.RegionTactic
import Derived.BigRegion
namespace Go.Proofs.Ybulkdgm
open Go.RowKit
set_option linter.unusedVariables false
attribute [local go_sem] run_store_float run_fadd run_fsub run_fmul run_fquo

/-- The sum's first m terms. -/
def acs (z : Nat → Nat) (mu k : Nat) : Nat → Nat
  | 0 => 0
  | m + 1 => fop .add (acs z mu k m) (fop .mul (fop .sub (z (k + m)) mu) (fop .sub (z m) mu))
def acov (z : Nat → Nat) (mu n k : Nat) : Nat := fop .quo (acs z mu k (n - k)) (floatOfInt .f64 n)

theorem acs_step {z : Nat → Nat} {mu k m t v : Nat} (ht : k + m = t) (hv : Sim v (acs z mu k m)) (w1 w2 w3 w4 : World) :
    Sim (fres .add v (fres .mul (fres .sub (z t) mu w1) (fres .sub (z (t - k)) mu w2) w3) w4) (acs z mu k (m + 1)) := by
  subst ht
  rw [Nat.add_sub_cancel_left]
  exact fres_op hv (fres_op (fres_sim _ _ _ _) (fres_sim _ _ _ _))
theorem acov_end {z : Nat → Nat} {mu k m n t v : Nat} (ht : k + m = t) (hm : m ≠ 0 → k + m ≤ n) (hn : ¬ t < n) (hv : Sim v (acs z mu k m)) (w : World) :
    Sim (fres .quo v (floatOfInt .f64 n) w) (acov z mu n k) := by
  obtain rfl : m = n - k := by by_cases h : m = 0 <;> omega
  exact fres_op hv (Sim.refl _)

set_option maxHeartbeats 1000000 in
theorem acov_any (z : Nat → Nat) (g mu n k : Nat) (hn : n ≤ 1024) (hk : k ≤ 1024) (w : World) (hc : ∀ i, i < n → w.cell? ⟨g, i, none⟩ = some (.float .f64 (z i))) :
    Calls Yba.prog 10 #[.slice (some ⟨g, 0, none⟩) n n, .float .f64 mu, .int .i64 k] w fun e w' => ∃ v q, e = .returned (.float .f64 v) ∧ Sim v (acov z mu n k) ∧ w' = w.drewN q := by
  have HC := hid hc
  clear hc
  go_enter Yba.func10, Yba.ntmps10
  go_wp2
  go_loopw [7, 8] (fun s t wr => ∃ (m v q : Nat), k + m ≤ n + k ∧ (m ≠ 0 → k + m ≤ n) ∧ t = .int .i64 ((k + m : Nat) : Int) ∧ s = .float .f64 v ∧ Sim v (acs z mu k m) ∧ wr = w.drewN q) (fun _ t _ => n - (intOf t).toNat)
  case atStart => exact ⟨0, 0, 0, by omega, by omega, by simp, rfl, Sim.refl _, rfl⟩
  case round =>
    obtain ⟨m, v, q, hm, hm', rfl, rfl, hs, rfl⟩ := hrel
    have HS := hid hs
    have HM := hid hm'
    clear hs hm'
    obtain ⟨t, ht⟩ : ∃ t, k + m = t := ⟨_, rfl⟩
    rw [ht]
    have HT := hid ht
    clear ht
    by_cases hlt : t < n
    · have c1 := HC.out t hlt
      have c2 := HC.out (t - k) (by omega)
      have b1 : (0 : Int) ≤ (t : Int) - k := by have := HT.out; omega
      have b2 : (t : Int) - k < n := by omega
      go_wp2
      go_region
      all_goals go_wp2
      all_goals go_roundw
      all_goals first
        | exact ⟨m + 1, _, _, by have := HT.out; omega, by have := HT.out; omega, by have := HT.out; go_num, rfl, acs_step HT.out HS.out _ _ _ _, rfl⟩
        | (have := HT.out; simp [intOf]; omega)
    · go_wp2
      go_ret
      exact ⟨_, _, rfl, acov_end HT.out HM.out hlt HS.out _, rfl⟩

set_option maxHeartbeats 1000000 in
theorem cacov_any (z : Nat → Nat) (g mu n k : Nat) (hn : n ≤ 1024) (hk : k ≤ 1024) (w : World) (hc : ∀ i, i < n → w.cell? ⟨g, i, none⟩ = some (.float .f64 (z i))) :
    Calls Yba.prog 9 #[.slice (some ⟨g, 0, none⟩) n n, .float .f64 mu, .int .i64 k] w fun e w' => ∃ v q, e = .returned (.float .f64 v) ∧ Sim v (acov z mu n k) ∧ w' = w.drewN q := by
  have HC := hid hc
  clear hc
  go_enter Yba.func9, Yba.ntmps9
  go_wp2
  go_loopw [7, 8] (fun s t wr => ∃ (m v q : Nat), k + m ≤ n + k ∧ (m ≠ 0 → k + m ≤ n) ∧ t = .int .i64 ((k + m : Nat) : Int) ∧ s = .float .f64 v ∧ Sim v (acs z mu k m) ∧ wr = w.drewN q) (fun _ t _ => n - (intOf t).toNat)
  case atStart => exact ⟨0, 0, 0, by omega, by omega, by simp, rfl, Sim.refl _, rfl⟩
  case round =>
    obtain ⟨m, v, q, hm, hm', rfl, rfl, hs, rfl⟩ := hrel
    have HS := hid hs
    have HM := hid hm'
    clear hs hm'
    obtain ⟨t, ht⟩ : ∃ t, k + m = t := ⟨_, rfl⟩
    rw [ht]
    have HT := hid ht
    clear ht
    by_cases hlt : t < n
    · have c1 := HC.out t hlt
      have c2 := HC.out (t - k) (by omega)
      have b1 : (0 : Int) ≤ (t : Int) - k := by have := HT.out; omega
      have b2 : (t : Int) - k < n := by omega
      go_wp2
      go_region
      all_goals go_wp2
      all_goals go_roundw
      all_goals first
        | exact ⟨m + 1, _, _, by have := HT.out; omega, by have := HT.out; omega, by have := HT.out; go_num, rfl, acs_step HT.out HS.out _ _ _ _, rfl⟩
        | (have := HT.out; simp [intOf]; omega)
    · go_wp2
      go_ret
      exact ⟨_, _, rfl, acov_end HT.out HM.out hlt HS.out _, rfl⟩

end Go.Proofs.Ybulkdgm
