import Derived.Test.YbulkdjeF
namespace Go.Proofs.Ybulkdje
open Go.RowKit
set_option linter.unusedVariables false
attribute [local go_sem] run_store_float run_store_complex
set_option maxHeartbeats 1000000 in
theorem fields_pos (i pos fin : Int) (text : ByteArray) (re im : Nat) (oi : Int) (ob : Bool) (ou : Int) (oc : Bool) (hi : 0 ≤ i) (hi2 : i ≤ 9223372036854775807) (w : World) :
    Calls Yba.prog 3 #[.int .i64 i, .int .i64 pos, .int .i64 fin, .string text, .float .f64 re, .float .f64 im, .int .i64 oi, .bool ob, .int .u64 ou, .bool oc] w fun e w' => e = .returned (.bool true) ∧ Below w.heap.size w w' := by
  have h1 := order_int i
  have h00 : FloatKind.f64.format.order 0 0 = some .eq := by kernel_rfl
  go_enter Yba.func3, Yba.ntmps3
  go_wp2
  go_end0
  go_wp2
  go_ret
  exact ⟨rfl, (Below.refl _ _).alloc (Nat.le_refl _) _⟩
set_option maxHeartbeats 1000000 in
theorem fields_neg (i pos fin : Int) (text : ByteArray) (re im : Nat) (oi : Int) (ob : Bool) (ou : Int) (oc : Bool) (hi : i < 0) (hi2 : -9223372036854775808 ≤ i) (w : World) :
    Calls Yba.prog 3 #[.int .i64 i, .int .i64 pos, .int .i64 fin, .string text, .float .f64 re, .float .f64 im, .int .i64 oi, .bool ob, .int .u64 ou, .bool oc] w fun e w' => e = .returned (.bool true) ∧ Below w.heap.size w w' := by
  have h1 := order_int i
  have h00 : FloatKind.f64.format.order 0 0 = some .eq := by kernel_rfl
  go_enter Yba.func3, Yba.ntmps3
  go_wp2
  go_end0
  go_wp2
  go_ret
  exact ⟨rfl, (Below.refl _ _).alloc (Nat.le_refl _) _⟩

theorem fields_pre (i pos fin : Int) (text : ByteArray) (re im : Nat) (oi : Int) (ob : Bool) (ou : Int) (oc : Bool) (h1 : -9223372036854775808 ≤ i) (h2 : i ≤ 9223372036854775807) (w : World) :
    Calls Yba.prog 3 #[.int .i64 i, .int .i64 pos, .int .i64 fin, .string text, .float .f64 re, .float .f64 im, .int .i64 oi, .bool ob, .int .u64 ou, .bool oc] w fun e w' => e = .returned (.bool true) ∧ Below w.heap.size w w' := by
  by_cases h : 0 ≤ i
  · exact fields_pos i pos fin text re im oi ob ou oc h h2 w
  · exact fields_neg i pos fin text re im oi ob ou oc (by omega) h1 w
end Go.Proofs.Ybulkdje
