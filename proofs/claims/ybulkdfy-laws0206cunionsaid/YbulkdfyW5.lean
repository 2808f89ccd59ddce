import Derived.Test.YbulkdfyW1
namespace Go.Proofs.Ybulkdfy
open Go.RowKit
set_option linter.unusedVariables false

theorem pow0 (w : World) : Calls Yba.prog 8 #[.int .i64 0] w fun e w' => e = .returned (.int .i64 1) ∧ w' = w := pow_any 0 (by omega) w
theorem pow2 (w : World) : Calls Yba.prog 8 #[.int .i64 2] w fun e w' => e = .returned (.int .i64 100) ∧ w' = w := pow_any 2 (by omega) w
theorem pow4 (w : World) : Calls Yba.prog 8 #[.int .i64 4] w fun e w' => e = .returned (.int .i64 10000) ∧ w' = w := pow_any 4 (by omega) w
theorem pow6 (w : World) : Calls Yba.prog 8 #[.int .i64 6] w fun e w' => e = .returned (.int .i64 1000000) ∧ w' = w := pow_any 6 (by omega) w

def RangeEnd (w : World) (e : Ending) (w' : World) : Prop :=
  ∃ (s1 s2 : ByteArray) (lo lo' hi hi' : Nat), IsCode s1 lo lo' ∧ IsCode s2 hi' hi ∧ lo ≤ hi ∧ hi < 1000000 ∧ e = .returned (.tuple #[.agg #[.string s1, .string s2], .int .i64 lo, .int .i64 hi]) ∧ Below w.heap.size w w'

theorem range_end {w w' : World} {s1 s2 : ByteArray} {lo lo' hi hi' : Int} (h1 : IsCode s1 lo lo') (h2 : IsCode s2 hi' hi) (a1 : 0 ≤ lo) (a2 : 0 ≤ lo') (a3 : 0 ≤ hi') (a4 : lo ≤ hi) (a5 : hi < 1000000) (hB : Below w.heap.size w w') :
    RangeEnd w (.returned (.tuple #[.agg #[.string s1, .string s2], .int .i64 lo, .int .i64 hi])) w' := by
  obtain ⟨lo, rfl⟩ := Int.eq_ofNat_of_zero_le a1
  obtain ⟨lo', rfl⟩ := Int.eq_ofNat_of_zero_le a2
  obtain ⟨hi', rfl⟩ := Int.eq_ofNat_of_zero_le a3
  obtain ⟨hi, rfl⟩ := Int.eq_ofNat_of_zero_le (Int.le_trans a1 a4)
  exact ⟨s1, s2, lo, lo', hi, hi', h1, h2, by omega, by omega, rfl, hB⟩

theorem frozen_new (w : World) (c : Array Value) (t : TypeId) (o : Nat) : (w.alloc (.cells c t)).frozen? ⟨w.heap.size, o, none⟩ = false := by
  rw [frozen?_alloc_cells]
  unfold World.frozen?
  rw [Array.getElem?_eq_none (by simp)]

set_option maxHeartbeats 1000000 in
theorem range2 (l a b : Int) (hl0 : 0 ≤ l) (hl1 : l ≤ 255) (ha0 : 0 ≤ a) (ha1 : a ≤ 4294967295) (hb0 : 0 ≤ b) (hb1 : b ≤ 4294967295) (hl : l % 3 = 0) (hlt : a % 100 ≤ b % 100) (w : World) :
    Calls Yba.prog 5 #[.int .u8 l, .int .u32 a, .int .u32 b] w (RangeEnd w) := by
  have x0 : 0 ≤ a % 100 := by omega
  have x1 : a % 100 < 100 := by omega
  have y0 : 0 ≤ b % 100 := by omega
  have y1 : b % 100 < 100 := by omega
  go_enter Yba.func5, Yba.ntmps5
  go_wp2_with fail
  refine (pow2 _).mono ?_
  rintro e w1 ⟨rfl, rfl⟩
  go_wp2_with fail
  refine (pow4 _).mono ?_
  rintro e w2 ⟨rfl, rfl⟩
  go_wp2_with fail
  refine (code2 (a % 100) x0 x1 _).mono ?_
  rintro e w1 ⟨rfl, hB1⟩
  go_wp2_with fail
  refine (code2 (b % 100) y0 y1 _).mono ?_
  rintro e w2 ⟨rfl, hB2⟩
  have hz1 : w.heap.size + 1 ≤ w1.heap.size := by have := hB1.size; simpa using this
  have hz2 : w1.heap.size ≤ w2.heap.size := hB2.size
  have k0 : w2.cell? ⟨w.heap.size, 0, none⟩ = some (.string ⟨#[]⟩) := (hB2.cell (p := ⟨w.heap.size, 0, none⟩) (by show w.heap.size < _; omega)).trans ((hB1.cell (p := ⟨w.heap.size, 0, none⟩) (by simp)).trans (cell_new w _ 29 0 _ rfl))
  have k1 : w2.cell? ⟨w.heap.size, 1, none⟩ = some (.string ⟨#[]⟩) := (hB2.cell (p := ⟨w.heap.size, 1, none⟩) (by show w.heap.size < _; omega)).trans ((hB1.cell (p := ⟨w.heap.size, 1, none⟩) (by simp)).trans (cell_new w _ 29 1 _ rfl))
  have f0 : ∀ o, w2.frozen? ⟨w.heap.size, o, none⟩ = false := fun o => (hB2.frozen (p := ⟨w.heap.size, o, none⟩) (by show w.heap.size < _; omega)).trans ((hB1.frozen (p := ⟨w.heap.size, o, none⟩) (by simp)).trans (frozen_new w _ 29 o))
  have HB : Hid (Below w.heap.size w w2) := (((Below.refl _ _).alloc (Nat.le_refl _) _).trans (hB1.mono (by simp))).trans (hB2.mono (by omega))
  clear hB1 hB2
  go_wp2_with fail
  refine bodyPost_ret (v := .tuple #[.agg #[.string (strOfNums (dig 2 (a % 100))), .string (strOfNums (dig 2 (b % 100)))], .int .i64 (a % 100 * 10000), .int .i64 ((b % 100 + 1) * 10000 - 1)]) (by simp [results, Yba.results5, go_sem, k0, k1]) rfl ?_
  exact range_end (isCode2 _ x0 x1) (isCode2 _ y0 y1) (by omega) (by omega) (by omega) (by omega) (by omega) ((HB.out.setCell (p := ⟨w.heap.size, 0, none⟩) (Nat.le_refl _) _).setCell (p := ⟨w.heap.size, 1, none⟩) (Nat.le_refl _) _)

set_option maxHeartbeats 1000000 in
theorem range2s (l a b : Int) (hl0 : 0 ≤ l) (hl1 : l ≤ 255) (ha0 : 0 ≤ a) (ha1 : a ≤ 4294967295) (hb0 : 0 ≤ b) (hb1 : b ≤ 4294967295) (hl : l % 3 = 0) (hlt : b % 100 < a % 100) (w : World) :
    Calls Yba.prog 5 #[.int .u8 l, .int .u32 a, .int .u32 b] w (RangeEnd w) := by
  have x0 : 0 ≤ b % 100 := by omega
  have x1 : b % 100 < 100 := by omega
  have y0 : 0 ≤ a % 100 := by omega
  have y1 : a % 100 < 100 := by omega
  go_enter Yba.func5, Yba.ntmps5
  go_wp2_with fail
  refine (pow2 _).mono ?_
  rintro e w1 ⟨rfl, rfl⟩
  go_wp2_with fail
  refine (pow4 _).mono ?_
  rintro e w2 ⟨rfl, rfl⟩
  go_wp2_with fail
  refine (code2 (b % 100) x0 x1 _).mono ?_
  rintro e w1 ⟨rfl, hB1⟩
  go_wp2_with fail
  refine (code2 (a % 100) y0 y1 _).mono ?_
  rintro e w2 ⟨rfl, hB2⟩
  have hz1 : w.heap.size + 1 ≤ w1.heap.size := by have := hB1.size; simpa using this
  have hz2 : w1.heap.size ≤ w2.heap.size := hB2.size
  have k0 : w2.cell? ⟨w.heap.size, 0, none⟩ = some (.string ⟨#[]⟩) := (hB2.cell (p := ⟨w.heap.size, 0, none⟩) (by show w.heap.size < _; omega)).trans ((hB1.cell (p := ⟨w.heap.size, 0, none⟩) (by simp)).trans (cell_new w _ 29 0 _ rfl))
  have k1 : w2.cell? ⟨w.heap.size, 1, none⟩ = some (.string ⟨#[]⟩) := (hB2.cell (p := ⟨w.heap.size, 1, none⟩) (by show w.heap.size < _; omega)).trans ((hB1.cell (p := ⟨w.heap.size, 1, none⟩) (by simp)).trans (cell_new w _ 29 1 _ rfl))
  have f0 : ∀ o, w2.frozen? ⟨w.heap.size, o, none⟩ = false := fun o => (hB2.frozen (p := ⟨w.heap.size, o, none⟩) (by show w.heap.size < _; omega)).trans ((hB1.frozen (p := ⟨w.heap.size, o, none⟩) (by simp)).trans (frozen_new w _ 29 o))
  have HB : Hid (Below w.heap.size w w2) := (((Below.refl _ _).alloc (Nat.le_refl _) _).trans (hB1.mono (by simp))).trans (hB2.mono (by omega))
  clear hB1 hB2
  go_wp2_with fail
  refine bodyPost_ret (v := .tuple #[.agg #[.string (strOfNums (dig 2 (b % 100))), .string (strOfNums (dig 2 (a % 100)))], .int .i64 (b % 100 * 10000), .int .i64 ((a % 100 + 1) * 10000 - 1)]) (by simp [results, Yba.results5, go_sem, k0, k1]) rfl ?_
  exact range_end (isCode2 _ x0 x1) (isCode2 _ y0 y1) (by omega) (by omega) (by omega) (by omega) (by omega) ((HB.out.setCell (p := ⟨w.heap.size, 0, none⟩) (Nat.le_refl _) _).setCell (p := ⟨w.heap.size, 1, none⟩) (Nat.le_refl _) _)

set_option maxHeartbeats 1000000 in
theorem range4 (l a b : Int) (hl0 : 0 ≤ l) (hl1 : l ≤ 255) (ha0 : 0 ≤ a) (ha1 : a ≤ 4294967295) (hb0 : 0 ≤ b) (hb1 : b ≤ 4294967295) (hl : l % 3 = 1) (hlt : a % 10000 ≤ b % 10000) (w : World) :
    Calls Yba.prog 5 #[.int .u8 l, .int .u32 a, .int .u32 b] w (RangeEnd w) := by
  have x0 : 0 ≤ a % 10000 := by omega
  have x1 : a % 10000 < 10000 := by omega
  have y0 : 0 ≤ b % 10000 := by omega
  have y1 : b % 10000 < 10000 := by omega
  go_enter Yba.func5, Yba.ntmps5
  go_wp2_with fail
  refine (pow4 _).mono ?_
  rintro e w1 ⟨rfl, rfl⟩
  go_wp2_with fail
  refine (pow2 _).mono ?_
  rintro e w2 ⟨rfl, rfl⟩
  go_wp2_with fail
  refine (code4 (a % 10000) x0 x1 _).mono ?_
  rintro e w1 ⟨rfl, hB1⟩
  go_wp2_with fail
  refine (code4 (b % 10000) y0 y1 _).mono ?_
  rintro e w2 ⟨rfl, hB2⟩
  have hz1 : w.heap.size + 1 ≤ w1.heap.size := by have := hB1.size; simpa using this
  have hz2 : w1.heap.size ≤ w2.heap.size := hB2.size
  have k0 : w2.cell? ⟨w.heap.size, 0, none⟩ = some (.string ⟨#[]⟩) := (hB2.cell (p := ⟨w.heap.size, 0, none⟩) (by show w.heap.size < _; omega)).trans ((hB1.cell (p := ⟨w.heap.size, 0, none⟩) (by simp)).trans (cell_new w _ 29 0 _ rfl))
  have k1 : w2.cell? ⟨w.heap.size, 1, none⟩ = some (.string ⟨#[]⟩) := (hB2.cell (p := ⟨w.heap.size, 1, none⟩) (by show w.heap.size < _; omega)).trans ((hB1.cell (p := ⟨w.heap.size, 1, none⟩) (by simp)).trans (cell_new w _ 29 1 _ rfl))
  have f0 : ∀ o, w2.frozen? ⟨w.heap.size, o, none⟩ = false := fun o => (hB2.frozen (p := ⟨w.heap.size, o, none⟩) (by show w.heap.size < _; omega)).trans ((hB1.frozen (p := ⟨w.heap.size, o, none⟩) (by simp)).trans (frozen_new w _ 29 o))
  have HB : Hid (Below w.heap.size w w2) := (((Below.refl _ _).alloc (Nat.le_refl _) _).trans (hB1.mono (by simp))).trans (hB2.mono (by omega))
  clear hB1 hB2
  go_wp2_with fail
  refine bodyPost_ret (v := .tuple #[.agg #[.string (strOfNums (dig 4 (a % 10000))), .string (strOfNums (dig 4 (b % 10000)))], .int .i64 (a % 10000 * 100), .int .i64 ((b % 10000 + 1) * 100 - 1)]) (by simp [results, Yba.results5, go_sem, k0, k1]) rfl ?_
  exact range_end (isCode4 _ x0 x1) (isCode4 _ y0 y1) (by omega) (by omega) (by omega) (by omega) (by omega) ((HB.out.setCell (p := ⟨w.heap.size, 0, none⟩) (Nat.le_refl _) _).setCell (p := ⟨w.heap.size, 1, none⟩) (Nat.le_refl _) _)

set_option maxHeartbeats 1000000 in
theorem range4s (l a b : Int) (hl0 : 0 ≤ l) (hl1 : l ≤ 255) (ha0 : 0 ≤ a) (ha1 : a ≤ 4294967295) (hb0 : 0 ≤ b) (hb1 : b ≤ 4294967295) (hl : l % 3 = 1) (hlt : b % 10000 < a % 10000) (w : World) :
    Calls Yba.prog 5 #[.int .u8 l, .int .u32 a, .int .u32 b] w (RangeEnd w) := by
  have x0 : 0 ≤ b % 10000 := by omega
  have x1 : b % 10000 < 10000 := by omega
  have y0 : 0 ≤ a % 10000 := by omega
  have y1 : a % 10000 < 10000 := by omega
  go_enter Yba.func5, Yba.ntmps5
  go_wp2_with fail
  refine (pow4 _).mono ?_
  rintro e w1 ⟨rfl, rfl⟩
  go_wp2_with fail
  refine (pow2 _).mono ?_
  rintro e w2 ⟨rfl, rfl⟩
  go_wp2_with fail
  refine (code4 (b % 10000) x0 x1 _).mono ?_
  rintro e w1 ⟨rfl, hB1⟩
  go_wp2_with fail
  refine (code4 (a % 10000) y0 y1 _).mono ?_
  rintro e w2 ⟨rfl, hB2⟩
  have hz1 : w.heap.size + 1 ≤ w1.heap.size := by have := hB1.size; simpa using this
  have hz2 : w1.heap.size ≤ w2.heap.size := hB2.size
  have k0 : w2.cell? ⟨w.heap.size, 0, none⟩ = some (.string ⟨#[]⟩) := (hB2.cell (p := ⟨w.heap.size, 0, none⟩) (by show w.heap.size < _; omega)).trans ((hB1.cell (p := ⟨w.heap.size, 0, none⟩) (by simp)).trans (cell_new w _ 29 0 _ rfl))
  have k1 : w2.cell? ⟨w.heap.size, 1, none⟩ = some (.string ⟨#[]⟩) := (hB2.cell (p := ⟨w.heap.size, 1, none⟩) (by show w.heap.size < _; omega)).trans ((hB1.cell (p := ⟨w.heap.size, 1, none⟩) (by simp)).trans (cell_new w _ 29 1 _ rfl))
  have f0 : ∀ o, w2.frozen? ⟨w.heap.size, o, none⟩ = false := fun o => (hB2.frozen (p := ⟨w.heap.size, o, none⟩) (by show w.heap.size < _; omega)).trans ((hB1.frozen (p := ⟨w.heap.size, o, none⟩) (by simp)).trans (frozen_new w _ 29 o))
  have HB : Hid (Below w.heap.size w w2) := (((Below.refl _ _).alloc (Nat.le_refl _) _).trans (hB1.mono (by simp))).trans (hB2.mono (by omega))
  clear hB1 hB2
  go_wp2_with fail
  refine bodyPost_ret (v := .tuple #[.agg #[.string (strOfNums (dig 4 (b % 10000))), .string (strOfNums (dig 4 (a % 10000)))], .int .i64 (b % 10000 * 100), .int .i64 ((a % 10000 + 1) * 100 - 1)]) (by simp [results, Yba.results5, go_sem, k0, k1]) rfl ?_
  exact range_end (isCode4 _ x0 x1) (isCode4 _ y0 y1) (by omega) (by omega) (by omega) (by omega) (by omega) ((HB.out.setCell (p := ⟨w.heap.size, 0, none⟩) (Nat.le_refl _) _).setCell (p := ⟨w.heap.size, 1, none⟩) (Nat.le_refl _) _)

set_option maxHeartbeats 1000000 in
theorem range6 (l a b : Int) (hl0 : 0 ≤ l) (hl1 : l ≤ 255) (ha0 : 0 ≤ a) (ha1 : a ≤ 4294967295) (hb0 : 0 ≤ b) (hb1 : b ≤ 4294967295) (hl : l % 3 = 2) (hlt : a % 1000000 ≤ b % 1000000) (w : World) :
    Calls Yba.prog 5 #[.int .u8 l, .int .u32 a, .int .u32 b] w (RangeEnd w) := by
  have x0 : 0 ≤ a % 1000000 := by omega
  have x1 : a % 1000000 < 1000000 := by omega
  have y0 : 0 ≤ b % 1000000 := by omega
  have y1 : b % 1000000 < 1000000 := by omega
  go_enter Yba.func5, Yba.ntmps5
  go_wp2_with fail
  refine (pow6 _).mono ?_
  rintro e w1 ⟨rfl, rfl⟩
  go_wp2_with fail
  refine (pow0 _).mono ?_
  rintro e w2 ⟨rfl, rfl⟩
  go_wp2_with fail
  refine (code6 (a % 1000000) x0 x1 _).mono ?_
  rintro e w1 ⟨rfl, hB1⟩
  go_wp2_with fail
  refine (code6 (b % 1000000) y0 y1 _).mono ?_
  rintro e w2 ⟨rfl, hB2⟩
  have hz1 : w.heap.size + 1 ≤ w1.heap.size := by have := hB1.size; simpa using this
  have hz2 : w1.heap.size ≤ w2.heap.size := hB2.size
  have k0 : w2.cell? ⟨w.heap.size, 0, none⟩ = some (.string ⟨#[]⟩) := (hB2.cell (p := ⟨w.heap.size, 0, none⟩) (by show w.heap.size < _; omega)).trans ((hB1.cell (p := ⟨w.heap.size, 0, none⟩) (by simp)).trans (cell_new w _ 29 0 _ rfl))
  have k1 : w2.cell? ⟨w.heap.size, 1, none⟩ = some (.string ⟨#[]⟩) := (hB2.cell (p := ⟨w.heap.size, 1, none⟩) (by show w.heap.size < _; omega)).trans ((hB1.cell (p := ⟨w.heap.size, 1, none⟩) (by simp)).trans (cell_new w _ 29 1 _ rfl))
  have f0 : ∀ o, w2.frozen? ⟨w.heap.size, o, none⟩ = false := fun o => (hB2.frozen (p := ⟨w.heap.size, o, none⟩) (by show w.heap.size < _; omega)).trans ((hB1.frozen (p := ⟨w.heap.size, o, none⟩) (by simp)).trans (frozen_new w _ 29 o))
  have HB : Hid (Below w.heap.size w w2) := (((Below.refl _ _).alloc (Nat.le_refl _) _).trans (hB1.mono (by simp))).trans (hB2.mono (by omega))
  clear hB1 hB2
  go_wp2_with fail
  refine bodyPost_ret (v := .tuple #[.agg #[.string (strOfNums (dig 6 (a % 1000000))), .string (strOfNums (dig 6 (b % 1000000)))], .int .i64 (a % 1000000 * 1), .int .i64 ((b % 1000000 + 1) * 1 - 1)]) (by simp [results, Yba.results5, go_sem, k0, k1]) rfl ?_
  exact range_end (isCode6 _ x0 x1) (isCode6 _ y0 y1) (by omega) (by omega) (by omega) (by omega) (by omega) ((HB.out.setCell (p := ⟨w.heap.size, 0, none⟩) (Nat.le_refl _) _).setCell (p := ⟨w.heap.size, 1, none⟩) (Nat.le_refl _) _)

set_option maxHeartbeats 1000000 in
theorem range6s (l a b : Int) (hl0 : 0 ≤ l) (hl1 : l ≤ 255) (ha0 : 0 ≤ a) (ha1 : a ≤ 4294967295) (hb0 : 0 ≤ b) (hb1 : b ≤ 4294967295) (hl : l % 3 = 2) (hlt : b % 1000000 < a % 1000000) (w : World) :
    Calls Yba.prog 5 #[.int .u8 l, .int .u32 a, .int .u32 b] w (RangeEnd w) := by
  have x0 : 0 ≤ b % 1000000 := by omega
  have x1 : b % 1000000 < 1000000 := by omega
  have y0 : 0 ≤ a % 1000000 := by omega
  have y1 : a % 1000000 < 1000000 := by omega
  go_enter Yba.func5, Yba.ntmps5
  go_wp2_with fail
  refine (pow6 _).mono ?_
  rintro e w1 ⟨rfl, rfl⟩
  go_wp2_with fail
  refine (pow0 _).mono ?_
  rintro e w2 ⟨rfl, rfl⟩
  go_wp2_with fail
  refine (code6 (b % 1000000) x0 x1 _).mono ?_
  rintro e w1 ⟨rfl, hB1⟩
  go_wp2_with fail
  refine (code6 (a % 1000000) y0 y1 _).mono ?_
  rintro e w2 ⟨rfl, hB2⟩
  have hz1 : w.heap.size + 1 ≤ w1.heap.size := by have := hB1.size; simpa using this
  have hz2 : w1.heap.size ≤ w2.heap.size := hB2.size
  have k0 : w2.cell? ⟨w.heap.size, 0, none⟩ = some (.string ⟨#[]⟩) := (hB2.cell (p := ⟨w.heap.size, 0, none⟩) (by show w.heap.size < _; omega)).trans ((hB1.cell (p := ⟨w.heap.size, 0, none⟩) (by simp)).trans (cell_new w _ 29 0 _ rfl))
  have k1 : w2.cell? ⟨w.heap.size, 1, none⟩ = some (.string ⟨#[]⟩) := (hB2.cell (p := ⟨w.heap.size, 1, none⟩) (by show w.heap.size < _; omega)).trans ((hB1.cell (p := ⟨w.heap.size, 1, none⟩) (by simp)).trans (cell_new w _ 29 1 _ rfl))
  have f0 : ∀ o, w2.frozen? ⟨w.heap.size, o, none⟩ = false := fun o => (hB2.frozen (p := ⟨w.heap.size, o, none⟩) (by show w.heap.size < _; omega)).trans ((hB1.frozen (p := ⟨w.heap.size, o, none⟩) (by simp)).trans (frozen_new w _ 29 o))
  have HB : Hid (Below w.heap.size w w2) := (((Below.refl _ _).alloc (Nat.le_refl _) _).trans (hB1.mono (by simp))).trans (hB2.mono (by omega))
  clear hB1 hB2
  go_wp2_with fail
  refine bodyPost_ret (v := .tuple #[.agg #[.string (strOfNums (dig 6 (b % 1000000))), .string (strOfNums (dig 6 (a % 1000000)))], .int .i64 (b % 1000000 * 1), .int .i64 ((a % 1000000 + 1) * 1 - 1)]) (by simp [results, Yba.results5, go_sem, k0, k1]) rfl ?_
  exact range_end (isCode6 _ x0 x1) (isCode6 _ y0 y1) (by omega) (by omega) (by omega) (by omega) (by omega) ((HB.out.setCell (p := ⟨w.heap.size, 0, none⟩) (Nat.le_refl _) _).setCell (p := ⟨w.heap.size, 1, none⟩) (Nat.le_refl _) _)

theorem range_any (l a b : Int) (hl0 : 0 ≤ l) (hl1 : l ≤ 255) (ha0 : 0 ≤ a) (ha1 : a ≤ 4294967295) (hb0 : 0 ≤ b) (hb1 : b ≤ 4294967295) (w : World) :
    Calls Yba.prog 5 #[.int .u8 l, .int .u32 a, .int .u32 b] w (RangeEnd w) := by
  rcases (show l % 3 = 0 ∨ l % 3 = 1 ∨ l % 3 = 2 by omega) with h | h | h
  · rcases Int.lt_or_le (b % 100) (a % 100) with h2 | h2
    · exact range2s l a b hl0 hl1 ha0 ha1 hb0 hb1 h h2 w
    · exact range2 l a b hl0 hl1 ha0 ha1 hb0 hb1 h h2 w
  · rcases Int.lt_or_le (b % 10000) (a % 10000) with h2 | h2
    · exact range4s l a b hl0 hl1 ha0 ha1 hb0 hb1 h h2 w
    · exact range4 l a b hl0 hl1 ha0 ha1 hb0 hb1 h h2 w
  · rcases Int.lt_or_le (b % 1000000) (a % 1000000) with h2 | h2
    · exact range6s l a b hl0 hl1 ha0 ha1 hb0 hb1 h h2 w
    · exact range6 l a b hl0 hl1 ha0 ha1 hb0 hb1 h h2 w
end Go.Proofs.Ybulkdfy
