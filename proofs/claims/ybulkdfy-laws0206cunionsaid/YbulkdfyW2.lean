import Derived.Test.YbulkdfyW1
import Derived.RegionCalls
import Derived.Deep.RegionHeld3
import Derived.Outline
namespace Go.Proofs.Ybulkdfy
open Go.RowKit
set_option linter.unusedVariables false

theorem lt_add_any (a b k : Nat) (h : a < b) : a < b + k := by omega
theorem cell_alloc_lt (w : World) (o : Obj) (b i : Nat) (h : b < w.heap.size) : (w.alloc o).cell? ⟨b, i, none⟩ = w.cell? ⟨b, i, none⟩ :=
  World.cell?_alloc_old _ _ _ (by simp; omega)

theorem bcell {W w1 : World} (hb : Below W.heap.size W w1) : (∀ b o, b < W.heap.size → w1.cell? ⟨b, o, none⟩ = W.cell? ⟨b, o, none⟩) ∧ (∀ b o, b < W.heap.size → w1.frozen? ⟨b, o, none⟩ = W.frozen? ⟨b, o, none⟩) :=
  ⟨fun b o h => hb.cell (p := ⟨b, o, none⟩) h, fun b o h => hb.frozen (p := ⟨b, o, none⟩) h⟩

set_option maxHeartbeats 1000000 in
theorem words_any (s1 s2 : ByteArray) (lo lo' hi hi' : Int) (h1 : IsCode s1 lo lo') (h2 : IsCode s2 hi' hi) (w : World) :
    Calls Yba.prog 10 #[.agg #[.string s1, .string s2]] w fun e w' => ∃ B1 B2, w.heap.size ≤ B1 ∧ w.heap.size ≤ B2 ∧ e = .returned (.func (.func 13) #[] #[.pointer (some ⟨B1, 0, none⟩), .pointer (some ⟨B2, 0, none⟩)]) ∧
      w'.cell? ⟨B1, 0, none⟩ = some (.int .i64 lo) ∧ w'.cell? ⟨B2, 0, none⟩ = some (.int .i64 hi) ∧ Below w.heap.size w w' := by
  go_enter Yba.func10, Yba.ntmps10
  go_wp2_with fail
  refine (h1 _).mono ?_
  rintro e w1 ⟨a, b, c, d, f, g, a', b', c', d', f', g', rfl, ⟨ha, hb, hc, hd, hf, hg, hn⟩, _, hB1⟩
  have e0 : w1.cell? ⟨w.heap.size, 0, none⟩ = some (.string s1) := (hB1.cell (p := ⟨w.heap.size, 0, none⟩) (by simp)).trans (cell_new w _ 29 0 _ rfl)
  have e1 : w1.cell? ⟨w.heap.size, 1, none⟩ = some (.string s2) := (hB1.cell (p := ⟨w.heap.size, 1, none⟩) (by simp)).trans (cell_new w _ 29 1 _ rfl)
  have hz1 : w.heap.size < w1.heap.size := by have := hB1.size; simp at this; omega
  go_wp2_with fail
  refine (h2 _).mono ?_
  rintro e w2 ⟨a2, b2, c2', d2, f2', g2, a3, b3, c3, d3, f3, g3, rfl, _, ⟨ha3, hb3, hc3, hd3, hf3, hg3, hn3⟩, hB2⟩
  have hz2 : w1.heap.size + 1 < w2.heap.size := by have := hB2.size; simp at this; omega
  go_wp2_with fail
  obtain ⟨W3, hW3⟩ : ∃ W3, (w2.alloc (.cells #[.int .u8 a2, .int .u8 b2, .int .u8 c2', .int .u8 d2, .int .u8 f2', .int .u8 g2] 46)).alloc (.cells #[.int .u8 a3, .int .u8 b3, .int .u8 c3, .int .u8 d3, .int .u8 f3, .int .u8 g3] 46) = W3 := ⟨_, rfl⟩
  rw [hW3]
  have k0 : W3.cell? ⟨w1.heap.size, 0, none⟩ = some (.int .u8 a) := by rw [← hW3, World.cell?_alloc_old _ _ _ (by simp; omega), World.cell?_alloc_old _ _ _ (by simp; omega)]; exact (hB2.cell (p := ⟨w1.heap.size, 0, none⟩) (by simp; omega)).trans (by simp)
  have k1 : W3.cell? ⟨w1.heap.size, 1, none⟩ = some (.int .u8 b) := by rw [← hW3, World.cell?_alloc_old _ _ _ (by simp; omega), World.cell?_alloc_old _ _ _ (by simp; omega)]; exact (hB2.cell (p := ⟨w1.heap.size, 1, none⟩) (by simp; omega)).trans (by simp)
  have k2 : W3.cell? ⟨w1.heap.size, 2, none⟩ = some (.int .u8 c) := by rw [← hW3, World.cell?_alloc_old _ _ _ (by simp; omega), World.cell?_alloc_old _ _ _ (by simp; omega)]; exact (hB2.cell (p := ⟨w1.heap.size, 2, none⟩) (by simp; omega)).trans (by simp)
  have k3 : W3.cell? ⟨w1.heap.size, 3, none⟩ = some (.int .u8 d) := by rw [← hW3, World.cell?_alloc_old _ _ _ (by simp; omega), World.cell?_alloc_old _ _ _ (by simp; omega)]; exact (hB2.cell (p := ⟨w1.heap.size, 3, none⟩) (by simp; omega)).trans (by simp)
  have k4 : W3.cell? ⟨w1.heap.size, 4, none⟩ = some (.int .u8 f) := by rw [← hW3, World.cell?_alloc_old _ _ _ (by simp; omega), World.cell?_alloc_old _ _ _ (by simp; omega)]; exact (hB2.cell (p := ⟨w1.heap.size, 4, none⟩) (by simp; omega)).trans (by simp)
  have k5 : W3.cell? ⟨w1.heap.size, 5, none⟩ = some (.int .u8 g) := by rw [← hW3, World.cell?_alloc_old _ _ _ (by simp; omega), World.cell?_alloc_old _ _ _ (by simp; omega)]; exact (hB2.cell (p := ⟨w1.heap.size, 5, none⟩) (by simp; omega)).trans (by simp)
  have m0 : W3.cell? ⟨w2.heap.size + 1, 0, none⟩ = some (.int .u8 a3) := by rw [← hW3]; simp
  have m1 : W3.cell? ⟨w2.heap.size + 1, 1, none⟩ = some (.int .u8 b3) := by rw [← hW3]; simp
  have m2 : W3.cell? ⟨w2.heap.size + 1, 2, none⟩ = some (.int .u8 c3) := by rw [← hW3]; simp
  have m3 : W3.cell? ⟨w2.heap.size + 1, 3, none⟩ = some (.int .u8 d3) := by rw [← hW3]; simp
  have m4 : W3.cell? ⟨w2.heap.size + 1, 4, none⟩ = some (.int .u8 f3) := by rw [← hW3]; simp
  have m5 : W3.cell? ⟨w2.heap.size + 1, 5, none⟩ = some (.int .u8 g3) := by rw [← hW3]; simp
  have hz3 : W3.heap.size = w2.heap.size + 2 := by rw [← hW3]; simp
  have HB : Hid (Below w.heap.size w W3) := by
    rw [← hW3]
    exact (((((((Below.refl _ _).alloc (Nat.le_refl _) _).trans (hB1.mono (by simp))).alloc (by omega) _).alloc (by simp; omega) _).trans (hB2.mono (by simp; omega))).alloc (by omega) _).alloc (by simp; omega) _
  have HN : Hid (num6 a b c d f g = lo) := hn
  have HN3 : Hid (num6 a3 b3 c3 d3 f3 g3 = hi) := hn3
  have HZ : w2.heap.size + 1 < W3.heap.size := by omega
  have hA3 : w1.heap.size < W3.heap.size := by omega
  have hlt : w.heap.size < W3.heap.size := by omega
  clear hB1 hB2 hn hn3 e0 e1 h1 h2 hW3 hz3
  go_region_held3 (fun w' => (w'.cell? ⟨w1.heap.size, 0, none⟩ = some (.int .u8 a) ∧ w'.cell? ⟨w1.heap.size, 1, none⟩ = some (.int .u8 b) ∧ w'.cell? ⟨w1.heap.size, 2, none⟩ = some (.int .u8 c) ∧ w'.cell? ⟨w1.heap.size, 3, none⟩ = some (.int .u8 d) ∧ w'.cell? ⟨w1.heap.size, 4, none⟩ = some (.int .u8 f) ∧ w'.cell? ⟨w1.heap.size, 5, none⟩ = some (.int .u8 g)) ∧ (w'.cell? ⟨w2.heap.size + 1, 0, none⟩ = some (.int .u8 a3) ∧ w'.cell? ⟨w2.heap.size + 1, 1, none⟩ = some (.int .u8 b3) ∧ w'.cell? ⟨w2.heap.size + 1, 2, none⟩ = some (.int .u8 c3) ∧ w'.cell? ⟨w2.heap.size + 1, 3, none⟩ = some (.int .u8 d3) ∧ w'.cell? ⟨w2.heap.size + 1, 4, none⟩ = some (.int .u8 f3) ∧ w'.cell? ⟨w2.heap.size + 1, 5, none⟩ = some (.int .u8 g3))) (simp (maxDischargeDepth := 9) only [World.cell?_drew, cell_alloc_lt, World.size_alloc, lt_add_any, hA3, HZ, k0, k1, k2, k3, k4, k5, m0, m1, m2, m3, m4, m5, and_self]) (first | (go_at_call_of 12 (Value.int IntKind.u8 a); refine (number_any a b c d f g ha hb hc hd hf hg _).mono ?_; rintro e w' ⟨rfl, rfl⟩) | (go_at_call_of 12 (Value.int IntKind.u8 a3); refine (number_any a3 b3 c3 d3 f3 g3 ha3 hb3 hc3 hd3 hf3 hg3 _).mono ?_; rintro e w' ⟨rfl, rfl⟩))
  all_goals go_wp2
  all_goals go_ret
  all_goals obtain rfl : num6 a b c d f g = lo := HN
  all_goals obtain rfl : num6 a3 b3 c3 d3 f3 g3 = hi := HN3
  all_goals refine ⟨_, _, ?_, ?_, rfl, ?_, ?_, ?_⟩
  all_goals first
    | omega
    | (go_simp; done)
    | (repeat (first | exact HB.out | refine Below.drew ?_ | refine Below.alloc ?_ (by first | omega | (simp only [World.size_alloc]; omega)) _))
end Go.Proofs.Ybulkdfy
