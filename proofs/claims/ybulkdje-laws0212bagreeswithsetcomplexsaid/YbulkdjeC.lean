import Derived.Test.YbulkdjeI
import Derived.Deep.QuietTactic
import Derived.BigQuiet
namespace Go.Proofs.Ybulkdje
open Go.RowKit
set_option linter.unusedVariables false
attribute [local go_sem] run_store_float run_store_complex

/-- math.archTrunc, which has no body. -/
theorem trunc_call (x y : Nat) (h : ∀ P w, (Extern.MathFloor.toIntegral "math.archTrunc" .zero #[.float .f64 x]).run P w = .ok (.float .f64 y) w) (w : World) : (callFunc 8 #[.float .f64 x]).run Yba.prog w = .ok (.value (.float .f64 y)) w := by
  rw [run_callFunc_extern Yba.func8 (by kernel_rfl) (by kernel_rfl) (by kernel_rfl) (e := Extern.MathFloor.toIntegral "math.archTrunc" .zero) (by kernel_rfl), h]
  rfl

set_option maxRecDepth 100000 in
set_option maxHeartbeats 1000000 in
theorem agrees_pos (i : Int) (x : Nat) (hi : 0 ≤ i) (hi2 : i ≤ 9007199254740992) (hx : floatOfInt .f64 i = x)
    (ht : ∀ P w, (Extern.MathFloor.toIntegral "math.archTrunc" .zero #[.float .f64 x]).run P w = .ok (.float .f64 x) w)
    (ho : FloatKind.f64.format.order x x = some .eq) (hge : FloatKind.f64.format.order x 14114281232179134464 = some .gt) (hlt : FloatKind.f64.format.order x 4890909195324358656 = some .lt)
    (hcv : floatToIntVal .f64 x .i64 = some i) (w : World) :
    Calls Yba.prog 4 #[.int .i64 i] w fun e w' => e = .returned (.bool true) ∧ Below w.heap.size w w' := by
  have h00 : FloatKind.f64.format.order 0 0 = some .eq := by kernel_rfl
  have hc8 := trunc_call x x ht
  have hcn := fun w => run_convert_float_int (P := Yba.prog) w 22 2 .f64 .i64 x i (by kernel_rfl) Yba.underlying2 hcv
  clear ht hcv
  go_enter Yba.func4, Yba.ntmps4
  go_wp2
  go_end0
  go_wp2
  go_end0
  go_wp2
  refine bodyPost_ret (results_none rfl _ _ _) rfl ?_
  go_wp2
  go_quiet (fail)
  go_wp2
  go_ret
  exact ⟨rfl, below_drewN (((Below.refl _ _).alloc (Nat.le_refl _) _).alloc (by simp) _) _⟩
set_option maxRecDepth 100000 in
set_option maxHeartbeats 1000000 in
theorem agrees_neg (i : Int) (x : Nat) (hi : i < 0) (hi2 : -9007199254740992 ≤ i) (hx : floatOfInt .f64 i = x)
    (ht : ∀ P w, (Extern.MathFloor.toIntegral "math.archTrunc" .zero #[.float .f64 x]).run P w = .ok (.float .f64 x) w)
    (ho : FloatKind.f64.format.order x x = some .eq) (hge : FloatKind.f64.format.order x 14114281232179134464 = some .gt) (hlt : FloatKind.f64.format.order x 4890909195324358656 = some .lt)
    (hcv : floatToIntVal .f64 x .i64 = some i) (w : World) :
    Calls Yba.prog 4 #[.int .i64 i] w fun e w' => e = .returned (.bool true) ∧ Below w.heap.size w w' := by
  have h00 : FloatKind.f64.format.order 0 0 = some .eq := by kernel_rfl
  have hc8 := trunc_call x x ht
  have hcn := fun w => run_convert_float_int (P := Yba.prog) w 22 2 .f64 .i64 x i (by kernel_rfl) Yba.underlying2 hcv
  clear ht hcv
  go_enter Yba.func4, Yba.ntmps4
  go_wp2
  go_end0
  go_wp2
  go_end0
  go_wp2
  refine bodyPost_ret (results_none rfl _ _ _) rfl ?_
  go_wp2
  go_quiet (fail)
  go_wp2
  go_ret
  exact ⟨rfl, below_drewN (((Below.refl _ _).alloc (Nat.le_refl _) _).alloc (by simp) _) _⟩

theorem agrees_great (i : Int) (h : 9007199254740992 < i) (w : World) : Calls Yba.prog 4 #[.int .i64 i] w fun e w' => e = .returned (.bool true) ∧ Below w.heap.size w w' := by
  go_enter Yba.func4, Yba.ntmps4
  go_wp2
  go_ret
  exact ⟨rfl, Below.refl _ _⟩
theorem agrees_small (i : Int) (h : i < -9007199254740992) (w : World) : Calls Yba.prog 4 #[.int .i64 i] w fun e w' => e = .returned (.bool true) ∧ Below w.heap.size w w' := by
  have h' : ¬ 9007199254740992 < i := by omega
  go_enter Yba.func4, Yba.ntmps4
  go_wp2
  go_ret
  exact ⟨rfl, Below.refl _ _⟩

theorem agrees_pre (i : Int) (w : World) : Calls Yba.prog 4 #[.int .i64 i] w fun e w' => e = .returned (.bool true) ∧ Below w.heap.size w w' := by
  by_cases h1 : 9007199254740992 < i
  · exact agrees_great i h1 w
  by_cases h2 : i < -9007199254740992
  · exact agrees_small i h2 w
  have f := facts_any i (by omega) (by omega)
  by_cases h : 0 ≤ i
  · exact agrees_pos i _ h (by omega) rfl f.ht f.ho f.hge f.hlt f.hcv w
  · exact agrees_neg i _ (by omega) (by omega) rfl f.ht f.ho f.hge f.hlt f.hcv w
end Go.Proofs.Ybulkdje
