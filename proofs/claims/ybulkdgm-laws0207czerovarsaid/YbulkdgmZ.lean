import Derived.Test.YbulkdgmF1
namespace Go.Proofs.Ybulkdgm
open Go.RowKit
set_option linter.unusedVariables false
attribute [local go_sem] run_store_float

set_option maxHeartbeats 1000000 in
theorem zero_walk (a : Option Addr) (len cap : Nat) (Z : Array Value) (mean sig : Nat) (samples window : Int) (p : Nat) (hp : p ≤ 255) (hl : len ≤ 1024) (w : World)
    (hcp : (Builtin.copy_ #[22, 22] 3 #[.slice (some ⟨w.heap.size, 0, none⟩) len len, .slice a len cap]).run Yba.prog (w.alloc (.cells (zf len) 23)) = .ok (.int .i64 len) (w.alloc (.cells Z 23))) :
    Calls Yba.prog 3 #[.slice a len cap, .float .f64 mean, .float .f64 sig, .int .i64 samples, .int .i64 window, .int .u8 p] w fun e w' => e = .returned (.bool true) ∧ Below w.heap.size w w' := by
  have hmk := make_n len hl
  have hmp := make_n p (by omega)
  have hbt := bits_call
  have h00 : FloatKind.f64.format.order 0 0 = some .eq := by kernel_rfl
  have hl1 : ¬ (1024 : Int) < (len : Int) := by omega
  go_enter Yba.func3, Yba.ntmps3
  go_wp2_with fail
  go_wp2
  refine bodyPost_ret (results_none rfl _ _ _) rfl ?_
  have hBl : Below w.heap.size w ((((w.alloc (.cells Z 23)).alloc (.cells #[.float .f64 4607182418800017408, .float .f64 4611686018427387904] 23)).alloc
    (.cells #[.int .i64 0, .int .i64 0, .int .i64 samples, .float .f64 mean, .float .f64 0, .int .i64 window, .float .f64 mean, .slice (some ⟨w.heap.size + 1 + 1 + 1, 0, none⟩) p p, .float .f64 sig] 28)).alloc (.cells (zf p) 23)) :=
    ((((Below.refl _ _).alloc (Nat.le_refl _) _).alloc (by simp) _).alloc (by simp; omega) _).alloc (by simp; omega) _
  have HBl := hid hBl
  clear hBl
  go_wp2
  go_loop [16] (fun i => ∃ k : Nat, k ≤ p ∧ i = .int .i64 k) (fun i => p - (intOf i).toNat)
  case atStart => exact ⟨0, by omega, rfl⟩
  case round =>
    obtain ⟨k, hk, rfl⟩ := hrel
    by_cases hlt : k < p
    · have hzc : (zf p)[k]? = some (.float .f64 0) := zf_get p k hlt
      go_wp2
      go_round
      case rel => exact ⟨k + 1, by omega, by go_num⟩
      case measure => simp [intOf]; omega
    · go_wp2
      go_ret
      exact ⟨rfl, HBl.out⟩

theorem zero_great (a : Option Addr) (len cap : Nat) (mean sig : Nat) (samples window : Int) (p : Int) (hl : 1024 < len) (hm : len ≤ 9223372036854775807) (w : World) :
    Calls Yba.prog 3 #[.slice a len cap, .float .f64 mean, .float .f64 sig, .int .i64 samples, .int .i64 window, .int .u8 p] w fun e w' => e = .returned (.bool true) ∧ Below w.heap.size w w' := by
  have hl1 : (1024 : Int) < (len : Int) := by omega
  go_enter Yba.func3, Yba.ntmps3
  go_wp2
  go_ret
  exact ⟨rfl, Below.refl _ _⟩

theorem zero_pre (a : Option Addr) (len cap : Nat) (zs : List Nat) (mean sig : Nat) (samples window p : Int) (hp0 : 0 ≤ p) (hp : p ≤ 255) (w : World) (hz : IsFloats w a len cap zs) :
    Calls Yba.prog 3 #[.slice a len cap, .float .f64 mean, .float .f64 sig, .int .i64 samples, .int .i64 window, .int .u8 p] w fun e w' => e = .returned (.bool true) ∧ Below w.heap.size w w' := by
  obtain ⟨p, rfl⟩ := Int.eq_ofNat_of_zero_le hp0
  rcases hz with ⟨rfl, rfl, rfl, rfl⟩ | ⟨x, rfl, hl, hm, hz, hc⟩
  · exact zero_walk none 0 0 (zf 0) mean sig samples window p (by omega) (by omega) w (copy_0 _ _)
  · by_cases h : len ≤ 1024
    · exact zero_walk (some x) len cap (fl zs) mean sig samples window p (by omega) h w (copy_n w x len cap zs hz hc)
    · exact zero_great (some x) len cap mean sig samples window p (by omega) (by unfold maxLen at hm; omega) w
end Go.Proofs.Ybulkdgm
