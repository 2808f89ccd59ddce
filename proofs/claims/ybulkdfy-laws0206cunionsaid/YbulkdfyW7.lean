import Derived.Test.YbulkdfyW4
import Derived.Test.YbulkdfyW5
import Derived.Test.YbulkdfyW6
namespace Go.Proofs.Ybulkdfy
open Go.RowKit
set_option linter.unusedVariables false

theorem orW_len (ws : List Nat) (x : Nat × Nat) : (orW ws x).length = ws.length := by simp [orW]
theorem applyM_len (ws : List Nat) (l : List (Nat × Nat)) : (applyM ws l).length = ws.length := by
  unfold applyM
  induction l generalizing ws with
  | nil => rfl
  | cons x l ih => rw [List.foldl_cons, ih, orW_len]

theorem applyM_get (lo hi : Nat) (ws : List Nat) (hl : ws.length = 15625) (i : Nat) (hi' : i < 15625) : ∀ n, lo / 64 + n ≤ 15625 →
    (applyM ws (pairs lo hi n))[i]?.getD 0 = if lo / 64 ≤ i ∧ i < lo / 64 + n then ws[i]?.getD 0 ||| M lo hi i else ws[i]?.getD 0 := by
  intro n
  induction n with
  | zero =>
    intro _
    rw [if_neg (by omega)]
    rfl
  | succ n ih =>
    intro hn
    rw [pairs_succ, applyM_snoc]
    have ih' := ih (by omega)
    by_cases e : lo / 64 + n = i
    · subst e
      rw [if_neg (by omega)] at ih'
      rw [if_pos (by omega)]
      simp only [orW]
      rw [List.getElem?_set_self (by rw [applyM_len, hl]; exact hi'), ih']
      rfl
    · simp only [orW]
      rw [List.getElem?_set_ne e, ih']
      by_cases h : lo / 64 ≤ i ∧ i < lo / 64 + n
      · rw [if_pos h, if_pos (by omega)]
      · rw [if_neg h, if_neg (by omega)]

theorem applyM_all (lo hi : Nat) (hlh : lo ≤ hi) (hhi : hi < 1000000) (ws : List Nat) (hl : ws.length = 15625) (i : Nat) (hi' : i < 15625) :
    (applyM ws (pairs lo hi (hi / 64 + 1 - lo / 64)))[i]?.getD 0 = ws[i]?.getD 0 ||| M lo hi i := by
  rw [applyM_get lo hi ws hl i hi' _ (by omega)]
  by_cases h : lo / 64 ≤ i ∧ i < lo / 64 + (hi / 64 + 1 - lo / 64)
  · rw [if_pos h]
  · rw [if_neg h, M_none lo hi i (by omega), Nat.or_zero]

theorem check_one (g lo hi : Nat) (ws : List Nat) (hl0 : lo < 1000000) (hh0 : hi < 1000000) (w : World)
    (hrow : ∀ i : Nat, i < 15625 → w.cell? ⟨g, i, none⟩ = some (.int .u64 ((ws[i]?.getD 0 : Nat) : Int))) (hw : ∀ i : Nat, i < 15625 → ws[i]?.getD 0 = M lo hi i) (hg : g < w.heap.size) :
    Calls Yba.prog 7 #[.slice (some ⟨g, 0, none⟩) 15625 15625, .agg #[.int .i64 lo, .int .i64 0], .agg #[.int .i64 hi, .int .i64 0], .int .i64 1] w fun e w' => e = .returned (.bool true) ∧ Below w.heap.size w w' :=
  check_any g 1 lo 0 hi 0 ws (by omega) hl0 (by omega) hh0 (by omega) w hrow (fun i hi' => by rw [hw i hi']; simp [wantK, sel]) hg
theorem check_two (g lo lo' hi hi' : Nat) (ws : List Nat) (hl0 : lo < 1000000) (hl1 : lo' < 1000000) (hh0 : hi < 1000000) (hh1 : hi' < 1000000) (w : World)
    (hrow : ∀ i : Nat, i < 15625 → w.cell? ⟨g, i, none⟩ = some (.int .u64 ((ws[i]?.getD 0 : Nat) : Int))) (hw : ∀ i : Nat, i < 15625 → ws[i]?.getD 0 = M lo hi i ||| M lo' hi' i) (hg : g < w.heap.size) :
    Calls Yba.prog 7 #[.slice (some ⟨g, 0, none⟩) 15625 15625, .agg #[.int .i64 lo, .int .i64 lo'], .agg #[.int .i64 hi, .int .i64 hi'], .int .i64 2] w fun e w' => e = .returned (.bool true) ∧ Below w.heap.size w w' :=
  check_any g 2 lo lo' hi hi' ws (by omega) hl0 hl1 hh0 hh1 w hrow (fun i hi' => by rw [hw i hi']; simp [wantK, sel]) hg

set_option maxHeartbeats 1000000 in
theorem single_pre (l a b : Int) (hl0 : 0 ≤ l) (hl1 : l ≤ 255) (ha0 : 0 ≤ a) (ha1 : a ≤ 4294967295) (hb0 : 0 ≤ b) (hb1 : b ≤ 4294967295) (w : World) :
    Calls Yba.prog 3 #[.int .u8 l, .int .u32 a, .int .u32 b] w fun e w' => e = .returned (.bool true) ∧ Below w.heap.size w w' := by
  go_enter Yba.func3, Yba.ntmps3
  go_wp2_with fail
  refine (range_any l a b hl0 hl1 ha0 ha1 hb0 hb1 _).mono ?_
  rintro e w1 ⟨s1, s2, lo, lo', hi, hi', h1, h2, hlh, hhi, rfl, hB⟩
  have hz : w.heap.size < w1.heap.size := by have := hB.size; simp at this; omega
  have c0 : w1.cell? ⟨w.heap.size, 0, none⟩ = some (.slice none 0 0) := (hB.cell (p := ⟨w.heap.size, 0, none⟩) (by simp)).trans (cell_new w _ 25 0 _ rfl)
  have f0 : w1.frozen? ⟨w.heap.size, 0, none⟩ = false := (hB.frozen (p := ⟨w.heap.size, 0, none⟩) (by simp)).trans (frozen_new w _ 25 0)
  have HB := hid (((Below.refl w.heap.size w).alloc (Nat.le_refl _) (.cells #[.slice none 0 0] 25)).trans (hB.mono (by simp)))
  clear hB
  go_wp2_with fail
  refine (add_nil s1 s2 lo lo' hi hi' h1 h2 hlh hhi w.heap.size w.heap.size _ (Nat.le_refl _) (by simp; omega) (by rw [cell_alloc_lt _ _ _ _ hz]; exact c0) (by rw [World.frozen?_alloc_old _ _ _ (by simp; omega)]; exact f0)).mono ?_
  rintro e w2 ⟨rfl, g, hg, hh, hbl, hfr⟩
  have c2 := hh.cell
  have HH := hid hh
  have HB2 := hid ((HB.out.alloc (by omega) (.cells #[.string s1, .string s2] 29)).trans hbl)
  have hgl : g < w2.heap.size := World.block_lt_of_cell? w2 _ (hh.row 0 (by omega))
  clear hh hbl hfr
  go_wp2_with fail
  refine (check_one g lo hi (applyM zeroL (pairs lo hi (hi / 64 + 1 - lo / 64))) (by omega) hhi w2 HH.out.row (fun i hi' => ?hw) hgl).mono ?_
  case hw => rw [applyM_all lo hi hlh hhi zeroL zeroL_len i hi', zeroL_get, Nat.zero_or]
  rintro e w3 ⟨rfl, hB3⟩
  go_wp2_with fail
  go_ret
  exact ⟨rfl, HB2.out.trans (hB3.mono (by have := HB2.out.size; omega))⟩

set_option maxHeartbeats 1000000 in
theorem union_pre (l a b l' a' b' : Int) (hl0 : 0 ≤ l) (hl1 : l ≤ 255) (ha0 : 0 ≤ a) (ha1 : a ≤ 4294967295) (hb0 : 0 ≤ b) (hb1 : b ≤ 4294967295)
    (hl0' : 0 ≤ l') (hl1' : l' ≤ 255) (ha0' : 0 ≤ a') (ha1' : a' ≤ 4294967295) (hb0' : 0 ≤ b') (hb1' : b' ≤ 4294967295) (w : World) :
    Calls Yba.prog 4 #[.int .u8 l, .int .u32 a, .int .u32 b, .int .u8 l', .int .u32 a', .int .u32 b'] w fun e w' => e = .returned (.bool true) ∧ Below w.heap.size w w' := by
  go_enter Yba.func4, Yba.ntmps4
  go_wp2_with fail
  refine (range_any l a b hl0 hl1 ha0 ha1 hb0 hb1 _).mono ?_
  rintro e w1 ⟨s1, s2, lo, lo', hi, hi', h1, h2, hlh, hhi, rfl, hB⟩
  have hz : w.heap.size < w1.heap.size := by have := hB.size; simp at this; omega
  have c0 : w1.cell? ⟨w.heap.size, 0, none⟩ = some (.slice none 0 0) := (hB.cell (p := ⟨w.heap.size, 0, none⟩) (by simp)).trans (cell_new w _ 25 0 _ rfl)
  have f0 : w1.frozen? ⟨w.heap.size, 0, none⟩ = false := (hB.frozen (p := ⟨w.heap.size, 0, none⟩) (by simp)).trans (frozen_new w _ 25 0)
  have HB := hid (((Below.refl w.heap.size w).alloc (Nat.le_refl _) (.cells #[.slice none 0 0] 25)).trans (hB.mono (by simp)))
  clear hB
  go_wp2_with fail
  refine (range_any l' a' b' hl0' hl1' ha0' ha1' hb0' hb1' _).mono ?_
  rintro e w2 ⟨t1, t2, mo, mo', ni, ni', k1, k2, kmn, kni, rfl, hB'⟩
  have hz2 : w1.heap.size < w2.heap.size := by have := hB'.size; simp at this; omega
  have c0' : w2.cell? ⟨w.heap.size, 0, none⟩ = some (.slice none 0 0) := (hB'.cell (p := ⟨w.heap.size, 0, none⟩) (by simp; omega)).trans (by rw [cell_alloc_lt _ _ _ _ hz]; exact c0)
  have f0' : w2.frozen? ⟨w.heap.size, 0, none⟩ = false := (hB'.frozen (p := ⟨w.heap.size, 0, none⟩) (by simp; omega)).trans (by rw [World.frozen?_alloc_old _ _ _ (by simp; omega)]; exact f0)
  have d0 : w2.cell? ⟨w1.heap.size, 0, none⟩ = some (.string s1) := (hB'.cell (p := ⟨w1.heap.size, 0, none⟩) (by simp)).trans (cell_new w1 _ 29 0 _ rfl)
  have d1 : w2.cell? ⟨w1.heap.size, 1, none⟩ = some (.string s2) := (hB'.cell (p := ⟨w1.heap.size, 1, none⟩) (by simp)).trans (cell_new w1 _ 29 1 _ rfl)
  have HB' := hid ((HB.out.alloc (by omega) (.cells #[.string s1, .string s2] 29)).trans (hB'.mono (by simp; omega)))
  clear hB' c0 f0
  go_wp2_with fail
  obtain ⟨W3, hW3⟩ : ∃ W3, w2.alloc (.cells #[.string t1, .string t2] 29) = W3 := ⟨_, rfl⟩
  rw [hW3]
  have hz3 : w2.heap.size < W3.heap.size := by rw [← hW3]; simp
  have p0 : W3.cell? ⟨w.heap.size, 0, none⟩ = some (.slice none 0 0) := by rw [← hW3, cell_alloc_lt _ _ _ _ (by omega)]; exact c0'
  have p1 : W3.frozen? ⟨w.heap.size, 0, none⟩ = false := by rw [← hW3, World.frozen?_alloc_old _ _ _ (by simp; omega)]; exact f0'
  have p2 : W3.cell? ⟨w1.heap.size, 0, none⟩ = some (.string s1) := by rw [← hW3, cell_alloc_lt _ _ _ _ (by omega)]; exact d0
  have p3 : W3.cell? ⟨w1.heap.size, 1, none⟩ = some (.string s2) := by rw [← hW3, cell_alloc_lt _ _ _ _ (by omega)]; exact d1
  have p4 : W3.cell? ⟨w2.heap.size, 0, none⟩ = some (.string t1) := by rw [← hW3]; exact cell_new w2 _ 29 0 _ rfl
  have p5 : W3.cell? ⟨w2.heap.size, 1, none⟩ = some (.string t2) := by rw [← hW3]; exact cell_new w2 _ 29 1 _ rfl
  have HB3 := hid (show Below w.heap.size w W3 by rw [← hW3]; exact HB'.out.alloc (by omega) _)
  clear hW3 c0' f0' d0 d1
  refine (add_nil s1 s2 lo lo' hi hi' h1 h2 hlh hhi w.heap.size w.heap.size W3 (Nat.le_refl _) (by omega) p0 p1).mono ?_
  rintro e w4 ⟨rfl, g, hg, hh, hbl, hfr⟩
  have c4 := hh.cell
  have q2 : w4.cell? ⟨w1.heap.size, 0, none⟩ = some (.string s1) := (World.cell?_of_block (hfr w1.heap.size (by omega) (by omega))).trans p2
  have q3 : w4.cell? ⟨w1.heap.size, 1, none⟩ = some (.string s2) := (World.cell?_of_block (hfr w1.heap.size (by omega) (by omega))).trans p3
  have q4 : w4.cell? ⟨w2.heap.size, 0, none⟩ = some (.string t1) := (World.cell?_of_block (hfr w2.heap.size (by omega) (by omega))).trans p4
  have q5 : w4.cell? ⟨w2.heap.size, 1, none⟩ = some (.string t2) := (World.cell?_of_block (hfr w2.heap.size (by omega) (by omega))).trans p5
  have HH := hid hh
  have hz4 : W3.heap.size ≤ w4.heap.size := hbl.size
  have HB4 := hid (HB3.out.trans hbl)
  have hgl : g < w4.heap.size := World.block_lt_of_cell? w4 _ (hh.row 0 (by omega))
  clear hh hbl hfr p0 p1 p2 p3 p4 p5
  go_wp2_with fail
  refine (add_own t1 t2 mo mo' ni ni' k1 k2 kmn kni w.heap.size w.heap.size g _ w4 (Nat.le_refl _) (by omega) (by omega) hgl HH.out).mono ?_
  rintro e w5 ⟨rfl, hh5, hbl5, hfr5⟩
  have c5 := hh5.cell
  have r2 : w5.cell? ⟨w1.heap.size, 0, none⟩ = some (.string s1) := (World.cell?_of_block (hfr5 w1.heap.size (by omega) (by omega))).trans q2
  have r3 : w5.cell? ⟨w1.heap.size, 1, none⟩ = some (.string s2) := (World.cell?_of_block (hfr5 w1.heap.size (by omega) (by omega))).trans q3
  have HH5 := hid hh5
  have hz5 : w4.heap.size ≤ w5.heap.size := hbl5.size
  have HB5 := hid (HB4.out.trans hbl5)
  clear hh5 hbl5 hfr5 q2 q3 q4 q5 c4
  go_wp2_with fail
  refine (add_own s1 s2 lo lo' hi hi' h1 h2 hlh hhi w.heap.size w.heap.size g _ w5 (Nat.le_refl _) (by omega) (by omega) (by omega) HH5.out).mono ?_
  rintro e w6 ⟨rfl, hh6, hbl6, hfr6⟩
  have c6 := hh6.cell
  have HH6 := hid hh6
  have hz6 : w5.heap.size ≤ w6.heap.size := hbl6.size
  have HB6 := hid (HB5.out.trans hbl6)
  clear hh6 hbl6 hfr6 r2 r3 c5
  go_wp2_with fail
  refine (check_two g lo mo hi ni _ (by omega) (by omega) hhi kni w6 HH6.out.row (fun i hi' => ?hw) (by omega)).mono ?_
  case hw =>
    rw [applyM_all lo hi hlh hhi _ (by rw [applyM_len, applyM_len, zeroL_len]) i hi', applyM_all mo ni kmn kni _ (by rw [applyM_len, zeroL_len]) i hi', applyM_all lo hi hlh hhi zeroL zeroL_len i hi', zeroL_get, Nat.zero_or]
    rw [Nat.or_assoc, Nat.or_comm (M mo ni i), ← Nat.or_assoc, Nat.or_self]
  rintro e w7 ⟨rfl, hB7⟩
  go_wp2_with fail
  go_ret
  exact ⟨rfl, HB6.out.trans (hB7.mono (by omega))⟩
end Go.Proofs.Ybulkdfy
