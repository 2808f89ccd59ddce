import Derived.Test.YbulkdgmM
import Derived.Deep.RegionWith
namespace Go.Proofs.Ybulkdgm
open Go.RowKit
set_option linter.unusedVariables false
attribute [local go_sem] run_store_float run_fadd run_fsub run_fmul run_fquo

theorem cacov_succ (z : Nat → Nat) (g mu n j : Nat) (hn : n ≤ 1024) (hk : j ≤ 1000) (w : World) (hc : ∀ i, i < n → w.cell? ⟨g, i, none⟩ = some (.float .f64 (z i))) :
    Calls Yba.prog 9 #[.slice (some ⟨g, 0, none⟩) n n, .float .f64 mu, .int .i64 ((j : Int) + 1)] w fun e w' => ∃ v q, e = .returned (.float .f64 v) ∧ Sim v (acov z mu n (j + 1)) ∧ w' = w.drewN q := by
  have h := cacov_any z g mu n (j + 1) hn (by omega) w hc
  rwa [show ((j + 1 : Nat) : Int) = (j : Int) + 1 from by omega] at h
theorem cacov_wrap (z : Nat → Nat) (g mu n j : Nat) (hn : n ≤ 1024) (hk : j ≤ 1000) (w : World) (hc : ∀ i, i < n → w.cell? ⟨g, i, none⟩ = some (.float .f64 (z i))) :
    Calls Yba.prog 9 #[.slice (some ⟨g, 0, none⟩) n n, .float .f64 mu, .int .i64 (IntKind.i64.wrap ((j : Int) + 1))] w fun e w' => ∃ v q, e = .returned (.float .f64 v) ∧ Sim v (acov z mu n (j + 1)) ∧ w' = w.drewN q := by
  rw [show IntKind.i64.wrap ((j : Int) + 1) = (j : Int) + 1 from by rw [IntKind.wrap_i64]; omega]
  exact cacov_succ z g mu n j hn hk w hc
theorem cacov_0 (z : Nat → Nat) (g mu n : Nat) (hn : n ≤ 1024) (w : World) (hc : ∀ i, i < n → w.cell? ⟨g, i, none⟩ = some (.float .f64 (z i))) :
    Calls Yba.prog 9 #[.slice (some ⟨g, 0, none⟩) n n, .float .f64 mu, .int .i64 0] w fun e w' => ∃ v q, e = .returned (.float .f64 v) ∧ Sim v (acov z mu n 0) ∧ w' = w.drewN q :=
  cacov_any z g mu n 0 hn (by omega) w hc

theorem mod_new (w : World) (samples window : Int) (mean var sig : Nat) (coef : Value) : Mod (w.alloc (.cells #[.int .i64 0, .int .i64 0, .int .i64 samples, .float .f64 mean, .float .f64 var, .int .i64 window, .float .f64 0, coef, .float .f64 sig] 28)) w.heap.size samples window mean var 0 sig coef :=
  ⟨cell_new w _ 28 2 _ rfl, cell_new w _ 28 3 _ rfl, cell_new w _ 28 4 _ rfl, cell_new w _ 28 5 _ rfl, cell_new w _ 28 6 _ rfl, cell_new w _ 28 7 _ rfl, cell_new w _ 28 8 _ rfl, fun o => frozen_new w _ 28 o⟩

set_option maxRecDepth 100000 in
set_option maxHeartbeats 2000000 in
theorem shape_walk (a : Option Addr) (len cap : Nat) (Z : Array Value) (z : Nat → Nat) (mean var var' : Nat) (samples window : Int) (p : Nat) (hp : p ≤ 255) (hl : len ≤ 1024) (w : World)
    (hcp : (Builtin.copy_ #[22, 22] 3 #[.slice (some ⟨w.heap.size, 0, none⟩) len len, .slice a len cap]).run Yba.prog (w.alloc (.cells (zf len) 23)) = .ok (.int .i64 len) (w.alloc (.cells Z 23)))
    (hZ : ∀ i, i < len → Z[i]? = some (.float .f64 (z i)))
    (hv : ((FloatKind.f64.format.order var 0 == some .eq) = false ∧ var' = var) ∨ ((FloatKind.f64.format.order var 0 == some .eq) = true ∧ var' = 4607182418800017408)) :
    Calls Yba.prog 5 #[.slice a len cap, .float .f64 mean, .float .f64 var, .int .i64 samples, .int .i64 window, .int .u8 p] w fun e w' => e = .returned (.bool true) ∧ Below w.heap.size w w' := by
  have hmk := make_n len hl
  have hbt := bits_call
  have hl1 : ¬ (1024 : Int) < (len : Int) := by omega
  have hv' : (FloatKind.f64.format.order var' 0 == some .eq) = false := by
    rcases hv with ⟨h, rfl⟩ | ⟨_, rfl⟩
    · exact h
    · kernel_rfl
  have HZ0 := hid hZ
  clear hZ
  obtain ⟨pp, hpp, hpb⟩ : ∃ pp : Nat, (p : Int) % 65 = (pp : Int) ∧ pp ≤ 64 := ⟨p % 65, by omega, by omega⟩
  go_enter Yba.func5, Yba.ntmps5
  go_upto_if 22 with fail
  go_cut [2] (fun s W => s = .float .f64 var' ∧ w = W)
  case first =>
    rcases hv with ⟨h, rfl⟩ | ⟨h, rfl⟩
    all_goals rw [h]
    all_goals go_wp2
    all_goals go_meet
    all_goals exact ⟨rfl, rfl⟩
  case rest =>
    obtain ⟨rfl, hw⟩ := hcut
    subst hw
    clear hv
    go_wp2_with fail
    obtain ⟨W1, hW1⟩ : ∃ W1, (w.alloc (.cells Z 23)).alloc (.cells #[.int .i64 0, .int .i64 0, .int .i64 samples, .float .f64 mean, .float .f64 var', .int .i64 window, .float .f64 0, .slice none 0 0, .float .f64 0] 28) = W1 := ⟨_, rfl⟩
    rw [hW1]
    have M1 : Mod W1 (w.heap.size + 1) samples window mean var' 0 0 (.slice none 0 0) := by
      have := mod_new (w.alloc (.cells Z 23)) samples window mean var' 0 (.slice none 0 0)
      rwa [hW1, World.size_alloc] at this
    have R1 : RowF W1 w.heap.size len z := by
      rw [← hW1]
      exact RowF.alloc ⟨fun i hi => cell_new w Z 23 i _ (HZ0.out i hi), fun i hi => frozen_new w Z 23 i⟩ _ (by simp)
    have B1 : Below w.heap.size w W1 := by rw [← hW1]; exact ((Below.refl _ _).alloc (Nat.le_refl _) _).alloc (by simp) _
    have S1 : W1.heap.size = w.heap.size + 2 := by rw [← hW1]; simp
    refine (fit_any z (w.heap.size + 1) w.heap.size len pp samples window mean var' 0 0 (.slice none 0 0) hl (by omega) W1 hv' M1 R1 (by omega) (by omega) (by omega)).mono ?_
    rintro e w2 ⟨rfl, g, sv, f, hM, hg, hO, hs, _, hK⟩
    have m2 := hM.c2
    have m3 := hM.c3
    have m4 := hM.c4
    have m5 := hM.c5
    have m6 := hM.c6
    have m7 := hM.c7
    have HM := hid hM
    have HO := hid hO
    have HR := hid (hK.row R1 (by omega) (by omega))
    have HB := hid (B1.trans (hK.low.mono (by omega)))
    have HS := hid hs
    have hls : w.heap.size + 2 ≤ w2.heap.size := by have := hK.size; omega
    clear hM hO hs hK M1 R1 B1 S1 hW1
    go_wp2_with fail
    refine (cacov_0 z w.heap.size mean len hl _ HR.out.cell).mono ?_
    rintro e w3 ⟨v0, q0, rfl, hv0, rfl⟩
    have HV0 := hid hv0
    clear hv0
    go_wp2_with fail
    go_loopw [16, 17] (fun s i wr => ∃ (j v q : Nat), j ≤ pp ∧ i = .int .i64 j ∧ s = .float .f64 v ∧ Sim v (sg (acov z mean len) f j) ∧ wr = w2.drewN q) (fun _ i _ => pp - (intOf i).toNat)
    case atStart => exact ⟨0, v0, q0, by omega, rfl, rfl, HV0.out, rfl⟩
    case round =>
      obtain ⟨j, v, q, hj, rfl, rfl, hv, rfl⟩ := hrel
      have HV := hid hv
      clear hv
      by_cases hjl : j < pp
      · have o1 := HO.out.cell j hjl
        have b1 : (0 : Int) ≤ (j : Int) := by omega
        have b2 : (j : Int) < (pp : Int) := by omega
        go_wp2_with fail
        go_region_with (first | (go_at_call 9; refine (cacov_wrap z w.heap.size mean len j hl (by omega) _ ?_).mono ?_; exact HR.out.cell; rintro e w' ⟨v1, q1, rfl, hv1, rfl⟩; have HV1 := hid hv1; clear hv1))
        all_goals go_wp2
        all_goals go_roundw
        all_goals first
          | exact ⟨j + 1, _, _, by omega, by go_num, rfl, fres_op HV.out (fres_op (Sim.refl _) HV1.out), rfl⟩
          | (simp [intOf]; omega)
      · obtain rfl : j = pp := by omega
        have m8 := HM.out.c8
        go_wp2_with fail
        refine (same_any sv v (HS.out.trans HV.out.symm) _).mono ?_
        rintro e w4 ⟨rfl, rfl⟩
        go_wp2
        go_ret
        exact ⟨rfl, below_drewN HB.out _⟩

theorem shape_great (a : Option Addr) (len cap : Nat) (mean var : Nat) (samples window : Int) (p : Int) (hl : 1024 < len) (hm : len ≤ 9223372036854775807) (w : World) :
    Calls Yba.prog 5 #[.slice a len cap, .float .f64 mean, .float .f64 var, .int .i64 samples, .int .i64 window, .int .u8 p] w fun e w' => e = .returned (.bool true) ∧ Below w.heap.size w w' := by
  have hl1 : (1024 : Int) < (len : Int) := by omega
  go_enter Yba.func5, Yba.ntmps5
  go_wp2
  go_ret
  exact ⟨rfl, Below.refl _ _⟩

theorem var_any (var : Nat) : ∃ var', ((FloatKind.f64.format.order var 0 == some .eq) = false ∧ var' = var) ∨ ((FloatKind.f64.format.order var 0 == some .eq) = true ∧ var' = 4607182418800017408) := by
  cases h : (FloatKind.f64.format.order var 0 == some .eq)
  · exact ⟨var, .inl ⟨rfl, rfl⟩⟩
  · exact ⟨_, .inr ⟨rfl, rfl⟩⟩

theorem shape_pre (a : Option Addr) (len cap : Nat) (zs : List Nat) (mean var : Nat) (samples window p : Int) (hp0 : 0 ≤ p) (hp : p ≤ 255) (w : World) (hz : IsFloats w a len cap zs) :
    Calls Yba.prog 5 #[.slice a len cap, .float .f64 mean, .float .f64 var, .int .i64 samples, .int .i64 window, .int .u8 p] w fun e w' => e = .returned (.bool true) ∧ Below w.heap.size w w' := by
  obtain ⟨p, rfl⟩ := Int.eq_ofNat_of_zero_le hp0
  obtain ⟨var', hv⟩ := var_any var
  rcases hz with ⟨rfl, rfl, rfl, rfl⟩ | ⟨x, rfl, hl, hm, hz, hc⟩
  · exact shape_walk none 0 0 (zf 0) (fun _ => 0) mean var var' samples window p (by omega) (by omega) w (copy_0 _ _) (fun i hi => by omega) hv
  · by_cases h : len ≤ 1024
    · exact shape_walk (some x) len cap (fl zs) (fun i => zs.getD i 0) mean var var' samples window p (by omega) h w (copy_n w x len cap zs hz hc) (fun i hi => fl_get zs i (by omega)) hv
    · exact shape_great (some x) len cap mean var samples window p (by omega) (by unfold maxLen at hm; omega) w
end Go.Proofs.Ybulkdgm
