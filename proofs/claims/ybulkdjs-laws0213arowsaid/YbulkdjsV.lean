import Derived.Test.YbulkdjsU
import Derived.Laws.EntriesVeiled
import Derived.RegionTactic
import Derived.BigRegion
import Derived.Deep.QuietTactic
import Derived.BigQuiet
namespace Go.Proofs.Ybulkdjs
open Go.RowKit
set_option linter.unusedVariables false

set_option maxRecDepth 100000 in
set_option maxHeartbeats 2000000 in
theorem orbit_any (kind : ByteArray) (w : World) :
    Calls Yba.prog 4 #[.string kind] w fun e w' => ∃ g, e = .returned (.agg #[.string kind, .string ⟨#[79, 114, 98, 105, 116, 32, 34, 80, 97, 99, 107, 97, 103, 101, 32, 105, 100, 101, 110, 116, 105, 102, 105, 101, 114, 115, 34]⟩, .bool false, .string ⟨#[45, 95]⟩, .string ⟨#[48, 49, 50, 51, 52, 53, 54, 55, 56, 57, 45, 95]⟩, .string ⟨#[45, 95]⟩, .string ⟨#[]⟩, .int .i64 0, .int .i64 0, .nilFunc, .slice none 0 0, .string ⟨#[]⟩, .slice none 0 0, .pointer (some ⟨g, 0, none⟩)]) ∧ w.heap.size < g ∧ RowB w' g (tab 5) ∧ Below w.heap.size w w' := by
  go_enter Yba.func4, Yba.ntmps4
  go_wp2_with fail
  refine (rules_any kind _ _).mono ?_
  rintro e w1 ⟨g, rfl, hg, hR, hB⟩
  have z0 := (hB.cell (p := ⟨w.heap.size, 0, none⟩) (by simp)).trans (cell_new w #[.string ⟨#[]⟩, .string ⟨#[]⟩, .bool false, .string ⟨#[]⟩, .string ⟨#[]⟩, .string ⟨#[]⟩, .string ⟨#[]⟩, .int .i64 0, .int .i64 0, .nilFunc, .slice none 0 0, .string ⟨#[]⟩, .slice none 0 0, .pointer none] 26 0 _ rfl)
  have z1 := (hB.cell (p := ⟨w.heap.size, 1, none⟩) (by simp)).trans (cell_new w #[.string ⟨#[]⟩, .string ⟨#[]⟩, .bool false, .string ⟨#[]⟩, .string ⟨#[]⟩, .string ⟨#[]⟩, .string ⟨#[]⟩, .int .i64 0, .int .i64 0, .nilFunc, .slice none 0 0, .string ⟨#[]⟩, .slice none 0 0, .pointer none] 26 1 _ rfl)
  have z2 := (hB.cell (p := ⟨w.heap.size, 2, none⟩) (by simp)).trans (cell_new w #[.string ⟨#[]⟩, .string ⟨#[]⟩, .bool false, .string ⟨#[]⟩, .string ⟨#[]⟩, .string ⟨#[]⟩, .string ⟨#[]⟩, .int .i64 0, .int .i64 0, .nilFunc, .slice none 0 0, .string ⟨#[]⟩, .slice none 0 0, .pointer none] 26 2 _ rfl)
  have z3 := (hB.cell (p := ⟨w.heap.size, 3, none⟩) (by simp)).trans (cell_new w #[.string ⟨#[]⟩, .string ⟨#[]⟩, .bool false, .string ⟨#[]⟩, .string ⟨#[]⟩, .string ⟨#[]⟩, .string ⟨#[]⟩, .int .i64 0, .int .i64 0, .nilFunc, .slice none 0 0, .string ⟨#[]⟩, .slice none 0 0, .pointer none] 26 3 _ rfl)
  have z4 := (hB.cell (p := ⟨w.heap.size, 4, none⟩) (by simp)).trans (cell_new w #[.string ⟨#[]⟩, .string ⟨#[]⟩, .bool false, .string ⟨#[]⟩, .string ⟨#[]⟩, .string ⟨#[]⟩, .string ⟨#[]⟩, .int .i64 0, .int .i64 0, .nilFunc, .slice none 0 0, .string ⟨#[]⟩, .slice none 0 0, .pointer none] 26 4 _ rfl)
  have z5 := (hB.cell (p := ⟨w.heap.size, 5, none⟩) (by simp)).trans (cell_new w #[.string ⟨#[]⟩, .string ⟨#[]⟩, .bool false, .string ⟨#[]⟩, .string ⟨#[]⟩, .string ⟨#[]⟩, .string ⟨#[]⟩, .int .i64 0, .int .i64 0, .nilFunc, .slice none 0 0, .string ⟨#[]⟩, .slice none 0 0, .pointer none] 26 5 _ rfl)
  have z6 := (hB.cell (p := ⟨w.heap.size, 6, none⟩) (by simp)).trans (cell_new w #[.string ⟨#[]⟩, .string ⟨#[]⟩, .bool false, .string ⟨#[]⟩, .string ⟨#[]⟩, .string ⟨#[]⟩, .string ⟨#[]⟩, .int .i64 0, .int .i64 0, .nilFunc, .slice none 0 0, .string ⟨#[]⟩, .slice none 0 0, .pointer none] 26 6 _ rfl)
  have z7 := (hB.cell (p := ⟨w.heap.size, 7, none⟩) (by simp)).trans (cell_new w #[.string ⟨#[]⟩, .string ⟨#[]⟩, .bool false, .string ⟨#[]⟩, .string ⟨#[]⟩, .string ⟨#[]⟩, .string ⟨#[]⟩, .int .i64 0, .int .i64 0, .nilFunc, .slice none 0 0, .string ⟨#[]⟩, .slice none 0 0, .pointer none] 26 7 _ rfl)
  have z8 := (hB.cell (p := ⟨w.heap.size, 8, none⟩) (by simp)).trans (cell_new w #[.string ⟨#[]⟩, .string ⟨#[]⟩, .bool false, .string ⟨#[]⟩, .string ⟨#[]⟩, .string ⟨#[]⟩, .string ⟨#[]⟩, .int .i64 0, .int .i64 0, .nilFunc, .slice none 0 0, .string ⟨#[]⟩, .slice none 0 0, .pointer none] 26 8 _ rfl)
  have z9 := (hB.cell (p := ⟨w.heap.size, 9, none⟩) (by simp)).trans (cell_new w #[.string ⟨#[]⟩, .string ⟨#[]⟩, .bool false, .string ⟨#[]⟩, .string ⟨#[]⟩, .string ⟨#[]⟩, .string ⟨#[]⟩, .int .i64 0, .int .i64 0, .nilFunc, .slice none 0 0, .string ⟨#[]⟩, .slice none 0 0, .pointer none] 26 9 _ rfl)
  have z10 := (hB.cell (p := ⟨w.heap.size, 10, none⟩) (by simp)).trans (cell_new w #[.string ⟨#[]⟩, .string ⟨#[]⟩, .bool false, .string ⟨#[]⟩, .string ⟨#[]⟩, .string ⟨#[]⟩, .string ⟨#[]⟩, .int .i64 0, .int .i64 0, .nilFunc, .slice none 0 0, .string ⟨#[]⟩, .slice none 0 0, .pointer none] 26 10 _ rfl)
  have z11 := (hB.cell (p := ⟨w.heap.size, 11, none⟩) (by simp)).trans (cell_new w #[.string ⟨#[]⟩, .string ⟨#[]⟩, .bool false, .string ⟨#[]⟩, .string ⟨#[]⟩, .string ⟨#[]⟩, .string ⟨#[]⟩, .int .i64 0, .int .i64 0, .nilFunc, .slice none 0 0, .string ⟨#[]⟩, .slice none 0 0, .pointer none] 26 11 _ rfl)
  have z12 := (hB.cell (p := ⟨w.heap.size, 12, none⟩) (by simp)).trans (cell_new w #[.string ⟨#[]⟩, .string ⟨#[]⟩, .bool false, .string ⟨#[]⟩, .string ⟨#[]⟩, .string ⟨#[]⟩, .string ⟨#[]⟩, .int .i64 0, .int .i64 0, .nilFunc, .slice none 0 0, .string ⟨#[]⟩, .slice none 0 0, .pointer none] 26 12 _ rfl)
  have z13 := (hB.cell (p := ⟨w.heap.size, 13, none⟩) (by simp)).trans (cell_new w #[.string ⟨#[]⟩, .string ⟨#[]⟩, .bool false, .string ⟨#[]⟩, .string ⟨#[]⟩, .string ⟨#[]⟩, .string ⟨#[]⟩, .int .i64 0, .int .i64 0, .nilFunc, .slice none 0 0, .string ⟨#[]⟩, .slice none 0 0, .pointer none] 26 13 _ rfl)
  have fz : ∀ j, w1.frozen? ⟨w.heap.size, j, none⟩ = false := fun j => (hB.frozen (p := ⟨w.heap.size, j, none⟩) (by simp)).trans (frozen_new w _ 26 j)
  have HR := hid hR
  have HB := hid hB
  clear hR hB
  simp only [World.size_alloc] at hg
  go_wp2
  refine bodyPost_ret (v := .agg #[.string kind, .string ⟨#[79, 114, 98, 105, 116, 32, 34, 80, 97, 99, 107, 97, 103, 101, 32, 105, 100, 101, 110, 116, 105, 102, 105, 101, 114, 115, 34]⟩, .bool false, .string ⟨#[45, 95]⟩, .string ⟨#[48, 49, 50, 51, 52, 53, 54, 55, 56, 57, 45, 95]⟩, .string ⟨#[45, 95]⟩, .string ⟨#[]⟩, .int .i64 0, .int .i64 0, .nilFunc, .slice none 0 0, .string ⟨#[]⟩, .slice none 0 0, .pointer (some ⟨g, 0, none⟩)]) (by simp [results, Yba.results4, go_sem, z0, z1, z2, z3, z4, z5, z6, z7, z8, z9, z10, z11, z12, z13]) rfl ⟨g, rfl, by omega, ?_, ?_⟩
  · have hn : w.heap.size ≠ g := by omega
    exact ((((((((((((((HR.out.other (i := 0) _ hn).other (i := 1) _ hn).other (i := 2) _ hn).other (i := 3) _ hn).other (i := 4) _ hn).other (i := 5) _ hn).other (i := 6) _ hn).other (i := 7) _ hn).other (i := 8) _ hn).other (i := 9) _ hn).other (i := 10) _ hn).other (i := 11) _ hn).other (i := 12) _ hn).other (i := 13) _ hn)
  · have hle : w.heap.size ≤ w.heap.size := Nat.le_refl _
    exact (((((((((((((((((Below.refl w.heap.size w).alloc (Nat.le_refl _) _).trans (HB.out.mono (by simp))).setCell (p := ⟨w.heap.size, 0, none⟩) hle _).setCell (p := ⟨w.heap.size, 1, none⟩) hle _).setCell (p := ⟨w.heap.size, 2, none⟩) hle _).setCell (p := ⟨w.heap.size, 3, none⟩) hle _).setCell (p := ⟨w.heap.size, 4, none⟩) hle _).setCell (p := ⟨w.heap.size, 5, none⟩) hle _).setCell (p := ⟨w.heap.size, 6, none⟩) hle _).setCell (p := ⟨w.heap.size, 7, none⟩) hle _).setCell (p := ⟨w.heap.size, 8, none⟩) hle _).setCell (p := ⟨w.heap.size, 9, none⟩) hle _).setCell (p := ⟨w.heap.size, 10, none⟩) hle _).setCell (p := ⟨w.heap.size, 11, none⟩) hle _).setCell (p := ⟨w.heap.size, 12, none⟩) hle _).setCell (p := ⟨w.heap.size, 13, none⟩) hle _)

theorem expect_tab : ∀ c, c < 256 → tab 5 c = (if (97 ≤ c ∧ c ≤ 122) ∨ (65 ≤ c ∧ c ≤ 90) then 1 else if 48 ≤ c ∧ c ≤ 57 then 3 else if c = 45 ∨ c = 95 then 7 else 0) := by decide +kernel
set_option maxHeartbeats 2000000 in
theorem expect_any (c : Nat) (hc : c < 256) (w : World) : Calls Yba.prog 5 #[.int .u8 c] w fun e w' => e = .returned (.int .u8 ((tab 5 c : Nat) : Int)) ∧ w' = w := by
  rw [expect_tab c hc]
  rcases (show (97 ≤ c ∧ c ≤ 122) ∨ (65 ≤ c ∧ c ≤ 90) ∨ (48 ≤ c ∧ c ≤ 57) ∨ c = 45 ∨ c = 95 ∨ (122 < c) ∨ (90 < c ∧ c < 95) ∨ c = 96 ∨ (57 < c ∧ c < 65) ∨ (c < 45) ∨ c = 46 ∨ c = 47 by omega) with t | t | t | t | t | t | t | t | t | t | t | t
  · have p0 : (97 : Int) ≤ c := by omega
    have p1 : (c : Int) ≤ 122 := by omega
    have p2 : (48 : Int) ≤ c := by omega
    have p3 : ¬ (c : Int) ≤ 57 := by omega
    have p4 : ((c : Int) == 45) = false := beq_false_of_ne (by omega)
    have p5 : ((c : Int) == 95) = false := beq_false_of_ne (by omega)
    rw [if_pos (by omega)]
    go_enter Yba.func5, Yba.ntmps5
    go_wp2
    go_ret
    exact ⟨rfl, rfl⟩
  · have p0 : ¬ (97 : Int) ≤ c := by omega
    have p1 : (c : Int) ≤ 122 := by omega
    have p2 : (65 : Int) ≤ c := by omega
    have p3 : (c : Int) ≤ 90 := by omega
    have p4 : (48 : Int) ≤ c := by omega
    have p5 : ¬ (c : Int) ≤ 57 := by omega
    have p6 : ((c : Int) == 45) = false := beq_false_of_ne (by omega)
    have p7 : ((c : Int) == 95) = false := beq_false_of_ne (by omega)
    rw [if_pos (by omega)]
    go_enter Yba.func5, Yba.ntmps5
    go_wp2
    go_ret
    exact ⟨rfl, rfl⟩
  · have p0 : ¬ (97 : Int) ≤ c := by omega
    have p1 : (c : Int) ≤ 122 := by omega
    have p2 : ¬ (65 : Int) ≤ c := by omega
    have p3 : (c : Int) ≤ 90 := by omega
    have p4 : (48 : Int) ≤ c := by omega
    have p5 : (c : Int) ≤ 57 := by omega
    have p6 : ((c : Int) == 45) = false := beq_false_of_ne (by omega)
    have p7 : ((c : Int) == 95) = false := beq_false_of_ne (by omega)
    rw [if_neg (by omega), if_pos (by omega)]
    go_enter Yba.func5, Yba.ntmps5
    go_wp2
    go_ret
    exact ⟨rfl, rfl⟩
  · subst t
    rw [if_neg (by omega), if_neg (by omega), if_pos (by omega)]
    go_enter Yba.func5, Yba.ntmps5
    go_wp2
    go_ret
    exact ⟨rfl, rfl⟩
  · subst t
    rw [if_neg (by omega), if_neg (by omega), if_pos (by omega)]
    go_enter Yba.func5, Yba.ntmps5
    go_wp2
    go_ret
    exact ⟨rfl, rfl⟩
  · have p0 : (97 : Int) ≤ c := by omega
    have p1 : ¬ (c : Int) ≤ 122 := by omega
    have p2 : (65 : Int) ≤ c := by omega
    have p3 : ¬ (c : Int) ≤ 90 := by omega
    have p4 : (48 : Int) ≤ c := by omega
    have p5 : ¬ (c : Int) ≤ 57 := by omega
    have p6 : ((c : Int) == 45) = false := beq_false_of_ne (by omega)
    have p7 : ((c : Int) == 95) = false := beq_false_of_ne (by omega)
    rw [if_neg (by omega), if_neg (by omega), if_neg (by omega)]
    go_enter Yba.func5, Yba.ntmps5
    go_wp2
    go_ret
    exact ⟨rfl, rfl⟩
  · have p0 : ¬ (97 : Int) ≤ c := by omega
    have p1 : (c : Int) ≤ 122 := by omega
    have p2 : (65 : Int) ≤ c := by omega
    have p3 : ¬ (c : Int) ≤ 90 := by omega
    have p4 : (48 : Int) ≤ c := by omega
    have p5 : ¬ (c : Int) ≤ 57 := by omega
    have p6 : ((c : Int) == 45) = false := beq_false_of_ne (by omega)
    have p7 : ((c : Int) == 95) = false := beq_false_of_ne (by omega)
    rw [if_neg (by omega), if_neg (by omega), if_neg (by omega)]
    go_enter Yba.func5, Yba.ntmps5
    go_wp2
    go_ret
    exact ⟨rfl, rfl⟩
  · subst t
    rw [if_neg (by omega), if_neg (by omega), if_neg (by omega)]
    go_enter Yba.func5, Yba.ntmps5
    go_wp2
    go_ret
    exact ⟨rfl, rfl⟩
  · have p0 : ¬ (97 : Int) ≤ c := by omega
    have p1 : (c : Int) ≤ 122 := by omega
    have p2 : ¬ (65 : Int) ≤ c := by omega
    have p3 : (c : Int) ≤ 90 := by omega
    have p4 : (48 : Int) ≤ c := by omega
    have p5 : ¬ (c : Int) ≤ 57 := by omega
    have p6 : ((c : Int) == 45) = false := beq_false_of_ne (by omega)
    have p7 : ((c : Int) == 95) = false := beq_false_of_ne (by omega)
    rw [if_neg (by omega), if_neg (by omega), if_neg (by omega)]
    go_enter Yba.func5, Yba.ntmps5
    go_wp2
    go_ret
    exact ⟨rfl, rfl⟩
  · have p0 : ¬ (97 : Int) ≤ c := by omega
    have p1 : (c : Int) ≤ 122 := by omega
    have p2 : ¬ (65 : Int) ≤ c := by omega
    have p3 : (c : Int) ≤ 90 := by omega
    have p4 : ¬ (48 : Int) ≤ c := by omega
    have p5 : (c : Int) ≤ 57 := by omega
    have p6 : ((c : Int) == 45) = false := beq_false_of_ne (by omega)
    have p7 : ((c : Int) == 95) = false := beq_false_of_ne (by omega)
    rw [if_neg (by omega), if_neg (by omega), if_neg (by omega)]
    go_enter Yba.func5, Yba.ntmps5
    go_wp2
    go_ret
    exact ⟨rfl, rfl⟩
  · subst t
    rw [if_neg (by omega), if_neg (by omega), if_neg (by omega)]
    go_enter Yba.func5, Yba.ntmps5
    go_wp2
    go_ret
    exact ⟨rfl, rfl⟩
  · subst t
    rw [if_neg (by omega), if_neg (by omega), if_neg (by omega)]
    go_enter Yba.func5, Yba.ntmps5
    go_wp2
    go_ret
    exact ⟨rfl, rfl⟩

end Go.Proofs.Ybulkdjs
