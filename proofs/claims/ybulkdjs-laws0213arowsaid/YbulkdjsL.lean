import Derived.Test.YbulkdjsV
import Derived.Laws.EntriesVeiled
import Derived.RegionTactic
import Derived.BigRegion
import Derived.Deep.QuietTactic
import Derived.BigQuiet
namespace Go.Proofs.Ybulkdjs
open Go.RowKit
set_option linter.unusedVariables false

theorem below_drewN {B : Nat} {a w : World} (h : Below B a w) (n : Nat) : Below B a (w.drewN n) := ⟨h.os, h.tape, h.output, h.size, h.block⟩
theorem neq_func (w : World) : (binOp .neq 22 .nilFunc .nilFunc).run Yba.prog w = .ok (.bool false) w := by kernel_rfl
theorem neq_slice (w : World) : (binOp .neq 23 (.slice none 0 0) (.slice none 0 0)).run Yba.prog w = .ok (.bool false) w := by kernel_rfl
theorem eql_ptr (g : Nat) (w : World) : (binOp .eql 24 (.pointer (some ⟨g, 0, none⟩)) (.pointer none)).run Yba.prog w = .ok (.bool false) w := by
  first | kernel_rfl | simp [go_sem]

set_option maxRecDepth 100000 in
set_option maxHeartbeats 4000000 in
theorem row_pre (kind : ByteArray) (w : World) :
    Calls Yba.prog 3 #[.string kind] w fun e w' => e = .returned (.bool true) ∧ Below w.heap.size w w' := by
  have nf := neq_func
  have ns := neq_slice
  have ep := eql_ptr
  go_enter Yba.func3, Yba.ntmps3
  go_wp2_with fail
  refine (orbit_any kind _).mono ?_
  rintro e w1 ⟨g, rfl, hg, hR, hB⟩
  have hgl : g < w1.heap.size := World.block_lt_of_cell? w1 _ (hR.cell 0 (by omega))
  have HR := hid (hR.alloc (.cells #[.string kind, .string ⟨#[79, 114, 98, 105, 116, 32, 34, 80, 97, 99, 107, 97, 103, 101, 32, 105, 100, 101, 110, 116, 105, 102, 105, 101, 114, 115, 34]⟩, .bool false, .string ⟨#[45, 95]⟩, .string ⟨#[48, 49, 50, 51, 52, 53, 54, 55, 56, 57, 45, 95]⟩, .string ⟨#[45, 95]⟩, .string ⟨#[]⟩, .int .i64 0, .int .i64 0, .nilFunc, .slice none 0 0, .string ⟨#[]⟩, .slice none 0 0, .pointer (some ⟨g, 0, none⟩)] 26) hgl)
  have HB := hid (hB.alloc hB.size (.cells #[.string kind, .string ⟨#[79, 114, 98, 105, 116, 32, 34, 80, 97, 99, 107, 97, 103, 101, 32, 105, 100, 101, 110, 116, 105, 102, 105, 101, 114, 115, 34]⟩, .bool false, .string ⟨#[45, 95]⟩, .string ⟨#[48, 49, 50, 51, 52, 53, 54, 55, 56, 57, 45, 95]⟩, .string ⟨#[45, 95]⟩, .string ⟨#[]⟩, .int .i64 0, .int .i64 0, .nilFunc, .slice none 0 0, .string ⟨#[]⟩, .slice none 0 0, .pointer (some ⟨g, 0, none⟩)] 26))
  clear hR hB
  go_wp2
  have HC := hid (cell_new w1 #[.string kind, .string ⟨#[79, 114, 98, 105, 116, 32, 34, 80, 97, 99, 107, 97, 103, 101, 32, 105, 100, 101, 110, 116, 105, 102, 105, 101, 114, 115, 34]⟩, .bool false, .string ⟨#[45, 95]⟩, .string ⟨#[48, 49, 50, 51, 52, 53, 54, 55, 56, 57, 45, 95]⟩, .string ⟨#[45, 95]⟩, .string ⟨#[]⟩, .int .i64 0, .int .i64 0, .nilFunc, .slice none 0 0, .string ⟨#[]⟩, .slice none 0 0, .pointer (some ⟨g, 0, none⟩)] 26 13 _ rfl)
  obtain ⟨b, hb⟩ : ∃ b, w1.heap.size = b := ⟨_, rfl⟩
  rw [hb] at HC
  rw [hb]
  obtain ⟨W, hW⟩ : ∃ W, w1.alloc (.cells #[.string kind, .string ⟨#[79, 114, 98, 105, 116, 32, 34, 80, 97, 99, 107, 97, 103, 101, 32, 105, 100, 101, 110, 116, 105, 102, 105, 101, 114, 115, 34]⟩, .bool false, .string ⟨#[45, 95]⟩, .string ⟨#[48, 49, 50, 51, 52, 53, 54, 55, 56, 57, 45, 95]⟩, .string ⟨#[45, 95]⟩, .string ⟨#[]⟩, .int .i64 0, .int .i64 0, .nilFunc, .slice none 0 0, .string ⟨#[]⟩, .slice none 0 0, .pointer (some ⟨g, 0, none⟩)] 26) = W := ⟨_, rfl⟩
  rw [hW] at HC HR HB
  rw [hW]
  clear hW hb nf ns ep hgl
  go_loopw [4] (fun i wr => ∃ k : Nat, k ≤ 256 ∧ i = .int .i64 k ∧ ∃ n, wr = W.drewN n) (fun i _ => 256 - (intOf i).toNat)
  case atStart => exact ⟨0, by omega, rfl, 0, rfl⟩
  case round =>
    obtain ⟨k, hk, rfl, n, rfl⟩ := hrel
    by_cases hlt : k < 256
    · have hlt2 : (k : Int) < 256 := by omega
      have c13 : W.cell? ⟨b, 13, none⟩ = some (.pointer (some ⟨g, 0, none⟩)) := HC.out
      have r1 := HR.out.cell k hlt
      have cv : IntKind.u8.wrap (k : Int) = k := by rw [IntKind.wrap_u8]; omega
      go_wp2_with fail
      go_quiet ((go_at_call 5; refine (expect_any k hlt _).mono ?_; rintro e w2 ⟨he, rfl⟩; exact ⟨he, _, rfl⟩))
      go_wp2
      go_roundw
      case rel => exact ⟨k + 1, by omega, by go_num, _, rfl⟩
      case measure => simp [intOf]; omega
    · obtain rfl : k = 256 := by omega
      go_wp2
      go_ret
      exact ⟨rfl, below_drewN HB.out _⟩

end Go.Proofs.Ybulkdjs
