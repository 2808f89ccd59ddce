import Derived.Test.YbulkdjsA
import Derived.Laws.EntriesVeiled
import Derived.RegionTactic
import Derived.BigRegion
namespace Go.Proofs.Ybulkdjs
open Go.RowKit
set_option linter.unusedVariables false

set_option maxRecDepth 100000 in
set_option maxHeartbeats 12000000 in
theorem rules_any (kind sec : ByteArray) (w : World) :
    Calls Yba.prog 6 #[.agg #[.string kind, .string sec, .bool false, .string ⟨#[45, 95]⟩, .string ⟨#[48, 49, 50, 51, 52, 53, 54, 55, 56, 57, 45, 95]⟩, .string ⟨#[45, 95]⟩, .string ⟨#[]⟩, .int .i64 0, .int .i64 0, .nilFunc, .slice none 0 0, .string ⟨#[]⟩, .slice none 0 0, .pointer none]] w fun e w' => ∃ g, e = .returned (.agg #[.string kind, .string sec, .bool false, .string ⟨#[45, 95]⟩, .string ⟨#[48, 49, 50, 51, 52, 53, 54, 55, 56, 57, 45, 95]⟩, .string ⟨#[45, 95]⟩, .string ⟨#[]⟩, .int .i64 0, .int .i64 0, .nilFunc, .slice none 0 0, .string ⟨#[]⟩, .slice none 0 0, .pointer (some ⟨g, 0, none⟩)]) ∧ w.heap.size ≤ g ∧ RowB w' g (tab 5) ∧ Below w.heap.size w w' := by
  obtain ⟨Z, hZ, hz⟩ := zero32
  go_enter Yba.func6, Yba.ntmps6
  go_wp2
  obtain ⟨W1, hW1⟩ : ∃ W1, ((w.alloc (.cells #[.string kind, .string sec, .bool false, .string ⟨#[45, 95]⟩, .string ⟨#[48, 49, 50, 51, 52, 53, 54, 55, 56, 57, 45, 95]⟩, .string ⟨#[45, 95]⟩, .string ⟨#[]⟩, .int .i64 0, .int .i64 0, .nilFunc, .slice none 0 0, .string ⟨#[]⟩, .slice none 0 0, .pointer (some ⟨w.heap.size + 1 + 1, 0, none⟩)] 26)).alloc (.cells #[.string ⟨#[]⟩, .string ⟨#[]⟩, .bool false, .string ⟨#[]⟩, .string ⟨#[]⟩, .string ⟨#[]⟩, .string ⟨#[]⟩, .int .i64 0, .int .i64 0, .nilFunc, .slice none 0 0, .string ⟨#[]⟩, .slice none 0 0, .pointer none] 26)).alloc (.cells Z 32) = W1 := ⟨_, rfl⟩
  rw [hW1]
  have R1 : RowB W1 (w.heap.size + 1 + 1) (bk 0) := by
    rw [← hW1]
    refine ⟨fun i hi => ?_, fun i hi => ?_⟩
    · have := cell_new ((w.alloc (.cells #[.string kind, .string sec, .bool false, .string ⟨#[45, 95]⟩, .string ⟨#[48, 49, 50, 51, 52, 53, 54, 55, 56, 57, 45, 95]⟩, .string ⟨#[45, 95]⟩, .string ⟨#[]⟩, .int .i64 0, .int .i64 0, .nilFunc, .slice none 0 0, .string ⟨#[]⟩, .slice none 0 0, .pointer (some ⟨w.heap.size + 1 + 1, 0, none⟩)] 26)).alloc (.cells #[.string ⟨#[]⟩, .string ⟨#[]⟩, .bool false, .string ⟨#[]⟩, .string ⟨#[]⟩, .string ⟨#[]⟩, .string ⟨#[]⟩, .int .i64 0, .int .i64 0, .nilFunc, .slice none 0 0, .string ⟨#[]⟩, .slice none 0 0, .pointer none] 26)) Z 32 i _ (hZ i hi)
      simpa [bk] using this
    · have := frozen_new ((w.alloc (.cells #[.string kind, .string sec, .bool false, .string ⟨#[45, 95]⟩, .string ⟨#[48, 49, 50, 51, 52, 53, 54, 55, 56, 57, 45, 95]⟩, .string ⟨#[45, 95]⟩, .string ⟨#[]⟩, .int .i64 0, .int .i64 0, .nilFunc, .slice none 0 0, .string ⟨#[]⟩, .slice none 0 0, .pointer (some ⟨w.heap.size + 1 + 1, 0, none⟩)] 26)).alloc (.cells #[.string ⟨#[]⟩, .string ⟨#[]⟩, .bool false, .string ⟨#[]⟩, .string ⟨#[]⟩, .string ⟨#[]⟩, .string ⟨#[]⟩, .int .i64 0, .int .i64 0, .nilFunc, .slice none 0 0, .string ⟨#[]⟩, .slice none 0 0, .pointer none] 26)) Z 32 i
      simpa using this
  have S1 : W1.heap.size = w.heap.size + 3 := by rw [← hW1]; simp
  have B1 : Below w.heap.size w W1 := by rw [← hW1]; exact (((Below.refl _ _).alloc (Nat.le_refl _) _).alloc (by simp) _).alloc (by simp; omega) _
  have C1 : ∀ j v, (#[.string kind, .string sec, .bool false, .string ⟨#[45, 95]⟩, .string ⟨#[48, 49, 50, 51, 52, 53, 54, 55, 56, 57, 45, 95]⟩, .string ⟨#[45, 95]⟩, .string ⟨#[]⟩, .int .i64 0, .int .i64 0, .nilFunc, .slice none 0 0, .string ⟨#[]⟩, .slice none 0 0, .pointer (some ⟨w.heap.size + 1 + 1, 0, none⟩)] : Array Value)[j]? = some v → W1.cell? ⟨w.heap.size, j, none⟩ = some v := fun j v hj => by
    rw [← hW1, World.cell?_alloc_old _ _ _ (by simp; omega), World.cell?_alloc_old _ _ _ (by simp)]
    exact cell_new w _ 26 j v hj
  have C2 : ∀ j v, (#[.string ⟨#[]⟩, .string ⟨#[]⟩, .bool false, .string ⟨#[]⟩, .string ⟨#[]⟩, .string ⟨#[]⟩, .string ⟨#[]⟩, .int .i64 0, .int .i64 0, .nilFunc, .slice none 0 0, .string ⟨#[]⟩, .slice none 0 0, .pointer none] : Array Value)[j]? = some v → W1.cell? ⟨w.heap.size + 1, j, none⟩ = some v := fun j v hj => by
    rw [← hW1, World.cell?_alloc_old _ _ _ (by simp)]
    have := cell_new (w.alloc (.cells #[.string kind, .string sec, .bool false, .string ⟨#[45, 95]⟩, .string ⟨#[48, 49, 50, 51, 52, 53, 54, 55, 56, 57, 45, 95]⟩, .string ⟨#[45, 95]⟩, .string ⟨#[]⟩, .int .i64 0, .int .i64 0, .nilFunc, .slice none 0 0, .string ⟨#[]⟩, .slice none 0 0, .pointer (some ⟨w.heap.size + 1 + 1, 0, none⟩)] 26)) #[.string ⟨#[]⟩, .string ⟨#[]⟩, .bool false, .string ⟨#[]⟩, .string ⟨#[]⟩, .string ⟨#[]⟩, .string ⟨#[]⟩, .int .i64 0, .int .i64 0, .nilFunc, .slice none 0 0, .string ⟨#[]⟩, .slice none 0 0, .pointer none] 26 j v hj
    rwa [World.size_alloc] at this
  have F2 : ∀ j, W1.frozen? ⟨w.heap.size + 1, j, none⟩ = false := fun j => by
    rw [← hW1, World.frozen?_alloc_old _ _ _ (by simp)]
    have := frozen_new (w.alloc (.cells #[.string kind, .string sec, .bool false, .string ⟨#[45, 95]⟩, .string ⟨#[48, 49, 50, 51, 52, 53, 54, 55, 56, 57, 45, 95]⟩, .string ⟨#[45, 95]⟩, .string ⟨#[]⟩, .int .i64 0, .int .i64 0, .nilFunc, .slice none 0 0, .string ⟨#[]⟩, .slice none 0 0, .pointer (some ⟨w.heap.size + 1 + 1, 0, none⟩)] 26)) #[.string ⟨#[]⟩, .string ⟨#[]⟩, .bool false, .string ⟨#[]⟩, .string ⟨#[]⟩, .string ⟨#[]⟩, .string ⟨#[]⟩, .int .i64 0, .int .i64 0, .nilFunc, .slice none 0 0, .string ⟨#[]⟩, .slice none 0 0, .pointer none] 26 j
    rwa [World.size_alloc] at this
  have HR1 := hid R1
  have HS1 := hid S1
  have HB1 := hid B1
  have HC1 := hid C1
  have HC2 := hid C2
  have HF2 := hid F2
  clear R1 S1 B1 C1 C2 F2 hW1 hz hZ
  go_loopw [11] (fun i wr => ∃ k : Nat, k ≤ 256 ∧ i = .int .i64 k ∧ RowB wr (w.heap.size + 1 + 1) (bk k) ∧ Below (w.heap.size + 1 + 1) W1 wr) (fun i _ => 256 - (intOf i).toNat)
  case atStart => exact ⟨0, by omega, rfl, HR1.out, Below.refl _ _⟩
  case round =>
    obtain ⟨k, hk, rfl, hR, hB⟩ := hrel
    have HR := hid hR
    have HB := hid hB
    by_cases hlt : k < 256
    · have c13 := (hB.cell (p := ⟨w.heap.size, 13, none⟩) (by show w.heap.size < _; omega)).trans (HC1.out 13 _ rfl)
      have c2 := (hB.cell (p := ⟨w.heap.size, 2, none⟩) (by show w.heap.size < _; omega)).trans (HC1.out 2 _ rfl)
      have r1 := hR.cell k hlt
      have r2 := hR.free k hlt
      clear hR hB
      rcases (show (97 ≤ k ∧ k ≤ 122) ∨ (65 ≤ k ∧ k ≤ 90) ∨ (48 ≤ k ∧ k ≤ 57) ∨ (122 < k) ∨ (90 < k ∧ k < 97) ∨ (57 < k ∧ k < 65) ∨ (k < 48) by omega) with t | t | t | t | t | t | t
      · have l1 : (97 : Int) ≤ k := by omega
        have l2 : (k : Int) ≤ 122 := by omega
        go_wp2
        go_roundw
        case rel => exact ⟨k + 1, by omega, by go_num, (HR.out.store k 1 hlt).congr (bk_yes k (by omega)), HB.out.setCell (p := ⟨w.heap.size + 1 + 1, k, none⟩) (Nat.le_refl _) _⟩
        case measure => simp [intOf]; omega
      · have l1 : ¬ (97 : Int) ≤ k := by omega
        have u1 : (65 : Int) ≤ k := by omega
        have u2 : (k : Int) ≤ 90 := by omega
        go_wp2
        go_roundw
        case rel => exact ⟨k + 1, by omega, by go_num, (HR.out.store k 1 hlt).congr (bk_yes k (by omega)), HB.out.setCell (p := ⟨w.heap.size + 1 + 1, k, none⟩) (Nat.le_refl _) _⟩
        case measure => simp [intOf]; omega
      · have l1 : ¬ (97 : Int) ≤ k := by omega
        have u1 : ¬ (65 : Int) ≤ k := by omega
        have d1 : (48 : Int) ≤ k := by omega
        have d2 : (k : Int) ≤ 57 := by omega
        go_wp2
        go_roundw
        case rel => exact ⟨k + 1, by omega, by go_num, (HR.out.store k 1 hlt).congr (bk_yes k (by omega)), HB.out.setCell (p := ⟨w.heap.size + 1 + 1, k, none⟩) (Nat.le_refl _) _⟩
        case measure => simp [intOf]; omega
      · have l1 : (97 : Int) ≤ k := by omega
        have l2 : ¬ (k : Int) ≤ 122 := by omega
        have u1 : (65 : Int) ≤ k := by omega
        have u2 : ¬ (k : Int) ≤ 90 := by omega
        have d1 : (48 : Int) ≤ k := by omega
        have d2 : ¬ (k : Int) ≤ 57 := by omega
        go_wp2
        go_roundw
        case rel => exact ⟨k + 1, by omega, by go_num, HR.out.congr (bk_no k (by omega)), HB.out⟩
        case measure => simp [intOf]; omega
      · have l1 : ¬ (97 : Int) ≤ k := by omega
        have u1 : (65 : Int) ≤ k := by omega
        have u2 : ¬ (k : Int) ≤ 90 := by omega
        have d1 : (48 : Int) ≤ k := by omega
        have d2 : ¬ (k : Int) ≤ 57 := by omega
        go_wp2
        go_roundw
        case rel => exact ⟨k + 1, by omega, by go_num, HR.out.congr (bk_no k (by omega)), HB.out⟩
        case measure => simp [intOf]; omega
      · have l1 : ¬ (97 : Int) ≤ k := by omega
        have u1 : ¬ (65 : Int) ≤ k := by omega
        have d1 : (48 : Int) ≤ k := by omega
        have d2 : ¬ (k : Int) ≤ 57 := by omega
        go_wp2
        go_roundw
        case rel => exact ⟨k + 1, by omega, by go_num, HR.out.congr (bk_no k (by omega)), HB.out⟩
        case measure => simp [intOf]; omega
      · have l1 : ¬ (97 : Int) ≤ k := by omega
        have u1 : ¬ (65 : Int) ≤ k := by omega
        have d1 : ¬ (48 : Int) ≤ k := by omega
        go_wp2
        go_roundw
        case rel => exact ⟨k + 1, by omega, by go_num, HR.out.congr (bk_no k (by omega)), HB.out⟩
        case measure => simp [intOf]; omega
    · obtain rfl : k = 256 := by omega
      have c3 := (hB.cell (p := ⟨w.heap.size, 3, none⟩) (by show w.heap.size < _; omega)).trans (HC1.out 3 _ rfl)
      have c4 := (hB.cell (p := ⟨w.heap.size, 4, none⟩) (by show w.heap.size < _; omega)).trans (HC1.out 4 _ rfl)
      have c5 := (hB.cell (p := ⟨w.heap.size, 5, none⟩) (by show w.heap.size < _; omega)).trans (HC1.out 5 _ rfl)
      have c6 := (hB.cell (p := ⟨w.heap.size, 6, none⟩) (by show w.heap.size < _; omega)).trans (HC1.out 6 _ rfl)
      have c11 := (hB.cell (p := ⟨w.heap.size, 11, none⟩) (by show w.heap.size < _; omega)).trans (HC1.out 11 _ rfl)
      have hgl : w.heap.size + 1 + 1 < wr.heap.size := World.block_lt_of_cell? wr _ (hR.cell 0 (by omega))
      clear hR hB
      go_wp2
      obtain ⟨b4, hb4⟩ : ∃ b4, wr.heap.size = b4 := ⟨_, rfl⟩
      have D4 : ∀ j v, (#[.string ⟨#[45, 95]⟩, .int .u8 1, .string ⟨#[48, 49, 50, 51, 52, 53, 54, 55, 56, 57, 45, 95]⟩, .int .u8 2, .string ⟨#[45, 95]⟩, .int .u8 4, .string ⟨#[]⟩, .int .u8 8, .string ⟨#[]⟩, .int .u8 16] : Array Value)[j]? = some v → (wr.alloc (.cells #[.string ⟨#[45, 95]⟩, .int .u8 1, .string ⟨#[48, 49, 50, 51, 52, 53, 54, 55, 56, 57, 45, 95]⟩, .int .u8 2, .string ⟨#[45, 95]⟩, .int .u8 4, .string ⟨#[]⟩, .int .u8 8, .string ⟨#[]⟩, .int .u8 16] 34)).cell? ⟨b4, j, none⟩ = some v := fun j v hj => by
        rw [← hb4]; exact cell_new wr _ 34 j v hj
      have RW := HR.out.alloc (.cells #[.string ⟨#[45, 95]⟩, .int .u8 1, .string ⟨#[48, 49, 50, 51, 52, 53, 54, 55, 56, 57, 45, 95]⟩, .int .u8 2, .string ⟨#[45, 95]⟩, .int .u8 4, .string ⟨#[]⟩, .int .u8 8, .string ⟨#[]⟩, .int .u8 16] 34) hgl
      have BW := HB.out.alloc (by have := HS1.out; omega) (.cells #[.string ⟨#[45, 95]⟩, .int .u8 1, .string ⟨#[48, 49, 50, 51, 52, 53, 54, 55, 56, 57, 45, 95]⟩, .int .u8 2, .string ⟨#[45, 95]⟩, .int .u8 4, .string ⟨#[]⟩, .int .u8 8, .string ⟨#[]⟩, .int .u8 16] 34)
      have HSZ := hid (show b4 < (wr.alloc (.cells #[.string ⟨#[45, 95]⟩, .int .u8 1, .string ⟨#[48, 49, 50, 51, 52, 53, 54, 55, 56, 57, 45, 95]⟩, .int .u8 2, .string ⟨#[45, 95]⟩, .int .u8 4, .string ⟨#[]⟩, .int .u8 8, .string ⟨#[]⟩, .int .u8 16] 34)).heap.size by rw [← hb4]; simp)
      have hgb : w.heap.size + 1 + 1 < b4 := by omega
      rw [hb4]
      have HD := hid D4
      have HRW := hid RW
      have HBW := hid BW
      clear D4 RW BW c3 c4 c5 c6 c11 hb4 hgl
      go_loopw [55] (fun i wr2 => ∃ j : Nat, j ≤ 5 ∧ i = .int .i64 j ∧ RowB wr2 (w.heap.size + 1 + 1) (tab j) ∧ Below (w.heap.size + 1 + 1) W1 wr2 ∧ (∀ j v, (#[.string ⟨#[45, 95]⟩, .int .u8 1, .string ⟨#[48, 49, 50, 51, 52, 53, 54, 55, 56, 57, 45, 95]⟩, .int .u8 2, .string ⟨#[45, 95]⟩, .int .u8 4, .string ⟨#[]⟩, .int .u8 8, .string ⟨#[]⟩, .int .u8 16] : Array Value)[j]? = some v → wr2.cell? ⟨b4, j, none⟩ = some v) ∧ b4 < wr2.heap.size) (fun i _ => 5 - (intOf i).toNat)
      case atStart => exact ⟨0, by omega, rfl, HRW.out.congr tab_0, HBW.out, HD.out, HSZ.out⟩
      case round =>
        obtain ⟨j, hj, rfl, hR, hB, hD, hsz⟩ := hrel
        have HR3 := hid hR
        have HB3 := hid hB
        have HD3 := hid hD
        rcases (show j = 0 ∨ j = 1 ∨ j = 2 ∨ j = 3 ∨ j = 4 ∨ j = 5 by omega) with rfl | rfl | rfl | rfl | rfl | rfl
        · have d0 := hD 0 _ rfl
          have d1 := hD 1 _ rfl
          have hgw : w.heap.size + 1 + 1 < wr.heap.size := by omega
          clear hR hB hD
          go_wp2
          obtain ⟨T, hT⟩ : ∃ T, wr.heap.size = T := ⟨_, rfl⟩
          obtain ⟨W4, hW4⟩ : ∃ W4, wr.alloc (.cells #[.string ⟨#[45, 95]⟩, .int .u8 1] 34) = W4 := ⟨_, rfl⟩
          rw [hT, hW4]
          have R4 : RowB W4 (w.heap.size + 1 + 1) (tab 0) := by rw [← hW4]; exact HR3.out.alloc _ hgw
          have B4 : Below (w.heap.size + 1 + 1) W1 W4 := by rw [← hW4]; exact HB3.out.alloc (by omega) _
          have D4 : ∀ j v, (#[.string ⟨#[45, 95]⟩, .int .u8 1, .string ⟨#[48, 49, 50, 51, 52, 53, 54, 55, 56, 57, 45, 95]⟩, .int .u8 2, .string ⟨#[45, 95]⟩, .int .u8 4, .string ⟨#[]⟩, .int .u8 8, .string ⟨#[]⟩, .int .u8 16] : Array Value)[j]? = some v → W4.cell? ⟨b4, j, none⟩ = some v := fun j v hj => by
            rw [← hW4, World.cell?_alloc_old _ _ _ (by simp; omega)]; exact HD3.out j v hj
          have S4 : b4 < W4.heap.size := by rw [← hW4]; simp; omega
          have t0 : W4.cell? ⟨T, 0, none⟩ = some (.string ⟨#[45, 95]⟩) := by rw [← hW4, ← hT]; exact cell_new wr _ 34 0 _ rfl
          have t1 : W4.cell? ⟨T, 1, none⟩ = some (.int .u8 1) := by rw [← hW4, ← hT]; exact cell_new wr _ 34 1 _ rfl
          have c13 := (B4.cell (p := ⟨w.heap.size, 13, none⟩) (by show w.heap.size < _; omega)).trans (HC1.out 13 _ rfl)
          have hTg : w.heap.size + 1 + 1 < T := by omega
          have hTw : w.heap.size < T := by omega
          have q45 : W4.cell? ⟨w.heap.size + 1 + 1, 45, none⟩ = some (.int .u8 0) := R4.cell 45 (by omega)
          have f45 : W4.frozen? ⟨w.heap.size + 1 + 1, 45, none⟩ = false := R4.free 45 (by omega)
          have q95 : W4.cell? ⟨w.heap.size + 1 + 1, 95, none⟩ = some (.int .u8 0) := R4.cell 95 (by omega)
          have f95 : W4.frozen? ⟨w.heap.size + 1 + 1, 95, none⟩ = false := R4.free 95 (by omega)
          have y0 : ∀ h, ((⟨#[45, 95]⟩ : ByteArray)[0]'h).toNat = 45 := fun _ => rfl
          have y1 : ∀ h, ((⟨#[45, 95]⟩ : ByteArray)[1]'h).toNat = 95 := fun _ => rfl
          have HR4 := hid R4
          have HB4 := hid B4
          have HD4 := hid D4
          have HS4 := hid S4
          clear R4 B4 D4 S4 hW4 hT
          refine wp_loop_rounds 3 ?_
          rw [rounds_succ]
          go_wp2
          go_region
          go_wp2
          rw [rounds_succ]
          go_wp2
          go_region
          go_wp2
          rw [rounds_succ]
          go_wp2
          have E1 := ((HR4.out.store 45 1 (by omega)).store 95 1 (by omega)).congr (tab_1)
          have E2 := ((HB4.out.setCell (p := ⟨w.heap.size + 1 + 1, 45, none⟩) (Nat.le_refl _) (.int .u8 1)).setCell (p := ⟨w.heap.size + 1 + 1, 95, none⟩) (Nat.le_refl _) (.int .u8 1))
          have E3 : ∀ j v, (#[.string ⟨#[45, 95]⟩, .int .u8 1, .string ⟨#[48, 49, 50, 51, 52, 53, 54, 55, 56, 57, 45, 95]⟩, .int .u8 2, .string ⟨#[45, 95]⟩, .int .u8 4, .string ⟨#[]⟩, .int .u8 8, .string ⟨#[]⟩, .int .u8 16] : Array Value)[j]? = some v → ((W4.setCell ⟨w.heap.size + 1 + 1, 45, none⟩ (.int .u8 1)).setCell ⟨w.heap.size + 1 + 1, 95, none⟩ (.int .u8 1)).cell? ⟨b4, j, none⟩ = some v := fun j v hj => by
            rw [World.cell?_setCell_other _ _ _ _ (by intro e; injection e with e; omega), World.cell?_setCell_other _ _ _ _ (by intro e; injection e with e; omega)]
            exact HD4.out j v hj
          have E4 : b4 < ((W4.setCell ⟨w.heap.size + 1 + 1, 45, none⟩ (.int .u8 1)).setCell ⟨w.heap.size + 1 + 1, 95, none⟩ (.int .u8 1)).heap.size := by have := HS4.out; simpa [World.setCell] using this
          go_roundw
          case rel => exact ⟨1, by omega, by go_num, ⟨E1.cell, E1.free⟩, ⟨E2.os, E2.tape, E2.output, E2.size, E2.block⟩, E3, E4⟩
          case measure => simp [intOf]
        · have d0 := hD 2 _ rfl
          have d1 := hD 3 _ rfl
          have hgw : w.heap.size + 1 + 1 < wr.heap.size := by omega
          clear hR hB hD
          go_wp2
          obtain ⟨T, hT⟩ : ∃ T, wr.heap.size = T := ⟨_, rfl⟩
          obtain ⟨W4, hW4⟩ : ∃ W4, wr.alloc (.cells #[.string ⟨#[48, 49, 50, 51, 52, 53, 54, 55, 56, 57, 45, 95]⟩, .int .u8 2] 34) = W4 := ⟨_, rfl⟩
          rw [hT, hW4]
          have R4 : RowB W4 (w.heap.size + 1 + 1) (tab 1) := by rw [← hW4]; exact HR3.out.alloc _ hgw
          have B4 : Below (w.heap.size + 1 + 1) W1 W4 := by rw [← hW4]; exact HB3.out.alloc (by omega) _
          have D4 : ∀ j v, (#[.string ⟨#[45, 95]⟩, .int .u8 1, .string ⟨#[48, 49, 50, 51, 52, 53, 54, 55, 56, 57, 45, 95]⟩, .int .u8 2, .string ⟨#[45, 95]⟩, .int .u8 4, .string ⟨#[]⟩, .int .u8 8, .string ⟨#[]⟩, .int .u8 16] : Array Value)[j]? = some v → W4.cell? ⟨b4, j, none⟩ = some v := fun j v hj => by
            rw [← hW4, World.cell?_alloc_old _ _ _ (by simp; omega)]; exact HD3.out j v hj
          have S4 : b4 < W4.heap.size := by rw [← hW4]; simp; omega
          have t0 : W4.cell? ⟨T, 0, none⟩ = some (.string ⟨#[48, 49, 50, 51, 52, 53, 54, 55, 56, 57, 45, 95]⟩) := by rw [← hW4, ← hT]; exact cell_new wr _ 34 0 _ rfl
          have t1 : W4.cell? ⟨T, 1, none⟩ = some (.int .u8 2) := by rw [← hW4, ← hT]; exact cell_new wr _ 34 1 _ rfl
          have c13 := (B4.cell (p := ⟨w.heap.size, 13, none⟩) (by show w.heap.size < _; omega)).trans (HC1.out 13 _ rfl)
          have hTg : w.heap.size + 1 + 1 < T := by omega
          have hTw : w.heap.size < T := by omega
          obtain ⟨s, hs⟩ : ∃ s : ByteArray, s = ⟨#[48, 49, 50, 51, 52, 53, 54, 55, 56, 57, 45, 95]⟩ := ⟨_, rfl⟩
          rw [← hs] at t0
          have hsz : s.size = 12 := by rw [hs]; rfl
          have HP := hid (show ∀ m : Nat, m < 12 → ∃ c : Nat, (∀ h', (s[m]'h').toNat = c) ∧ c < 256 ∧ uu m c = 1 ∧ ∀ i, i < 256 → upd (uu m) c 3 i = uu (m + 1) i by subst hs; exact pick)
          have HI := hid ((show Inn s W1 w.heap.size b4 T (tab 1) W4 from ⟨R4, B4, D4, S4, t0, t1⟩).congr uu_first)
          clear R4 B4 D4 S4 t0 t1 c13 hW4 hT hgw d0 d1 hs
          go_loopw [8] (fun i wr5 => ∃ m : Nat, m ≤ 12 ∧ i = .int .i64 m ∧ Inn s W1 w.heap.size b4 T (uu m) wr5) (fun i _ => 12 - (intOf i).toNat)
          case atStart => exact ⟨0, by omega, rfl, HI.out⟩
          case round =>
            obtain ⟨m, hm, rfl, hI⟩ := hrel
            have t0 := hI.t0
            have t1 := hI.t1
            have c13 := (hI.bel.cell (p := ⟨w.heap.size, 13, none⟩) (by show w.heap.size < _; omega)).trans (HC1.out 13 _ rfl)
            by_cases hlt : m < 12
            · obtain ⟨c, hy, hc, hq, hst⟩ := HP.out m hlt
              have q := hI.row.cell c hc
              rw [hq] at q
              have f := hI.row.free c hc
              have HJ := hid hI
              have HST := hid hst
              have hlt2 : (m : Int) < 12 := by omega
              have hc2 : (c : Int) < 256 := by omega
              clear hI hst hq
              go_wp2
              go_region
              go_wp2
              go_roundw
              case rel => exact ⟨m + 1, by omega, by go_num, (HJ.out.store hgb hTg c 3 hc).congr HST.out⟩
              case measure => simp [intOf]; omega
            · obtain rfl : m = 12 := by omega
              have HJ := hid hI
              clear hI
              go_wp2
              go_roundw
              case rel => exact ⟨2, by omega, by go_num, HJ.out.row.congr uu_last, HJ.out.bel, HJ.out.dd, HJ.out.sz⟩
              case measure => simp [intOf]
        · have d0 := hD 4 _ rfl
          have d1 := hD 5 _ rfl
          have hgw : w.heap.size + 1 + 1 < wr.heap.size := by omega
          clear hR hB hD
          go_wp2
          obtain ⟨T, hT⟩ : ∃ T, wr.heap.size = T := ⟨_, rfl⟩
          obtain ⟨W4, hW4⟩ : ∃ W4, wr.alloc (.cells #[.string ⟨#[45, 95]⟩, .int .u8 4] 34) = W4 := ⟨_, rfl⟩
          rw [hT, hW4]
          have R4 : RowB W4 (w.heap.size + 1 + 1) (tab 2) := by rw [← hW4]; exact HR3.out.alloc _ hgw
          have B4 : Below (w.heap.size + 1 + 1) W1 W4 := by rw [← hW4]; exact HB3.out.alloc (by omega) _
          have D4 : ∀ j v, (#[.string ⟨#[45, 95]⟩, .int .u8 1, .string ⟨#[48, 49, 50, 51, 52, 53, 54, 55, 56, 57, 45, 95]⟩, .int .u8 2, .string ⟨#[45, 95]⟩, .int .u8 4, .string ⟨#[]⟩, .int .u8 8, .string ⟨#[]⟩, .int .u8 16] : Array Value)[j]? = some v → W4.cell? ⟨b4, j, none⟩ = some v := fun j v hj => by
            rw [← hW4, World.cell?_alloc_old _ _ _ (by simp; omega)]; exact HD3.out j v hj
          have S4 : b4 < W4.heap.size := by rw [← hW4]; simp; omega
          have t0 : W4.cell? ⟨T, 0, none⟩ = some (.string ⟨#[45, 95]⟩) := by rw [← hW4, ← hT]; exact cell_new wr _ 34 0 _ rfl
          have t1 : W4.cell? ⟨T, 1, none⟩ = some (.int .u8 4) := by rw [← hW4, ← hT]; exact cell_new wr _ 34 1 _ rfl
          have c13 := (B4.cell (p := ⟨w.heap.size, 13, none⟩) (by show w.heap.size < _; omega)).trans (HC1.out 13 _ rfl)
          have hTg : w.heap.size + 1 + 1 < T := by omega
          have hTw : w.heap.size < T := by omega
          have q45 : W4.cell? ⟨w.heap.size + 1 + 1, 45, none⟩ = some (.int .u8 3) := R4.cell 45 (by omega)
          have f45 : W4.frozen? ⟨w.heap.size + 1 + 1, 45, none⟩ = false := R4.free 45 (by omega)
          have q95 : W4.cell? ⟨w.heap.size + 1 + 1, 95, none⟩ = some (.int .u8 3) := R4.cell 95 (by omega)
          have f95 : W4.frozen? ⟨w.heap.size + 1 + 1, 95, none⟩ = false := R4.free 95 (by omega)
          have y0 : ∀ h, ((⟨#[45, 95]⟩ : ByteArray)[0]'h).toNat = 45 := fun _ => rfl
          have y1 : ∀ h, ((⟨#[45, 95]⟩ : ByteArray)[1]'h).toNat = 95 := fun _ => rfl
          have HR4 := hid R4
          have HB4 := hid B4
          have HD4 := hid D4
          have HS4 := hid S4
          clear R4 B4 D4 S4 hW4 hT
          refine wp_loop_rounds 3 ?_
          rw [rounds_succ]
          go_wp2
          go_region
          go_wp2
          rw [rounds_succ]
          go_wp2
          go_region
          go_wp2
          rw [rounds_succ]
          go_wp2
          have E1 := ((HR4.out.store 45 7 (by omega)).store 95 7 (by omega)).congr (tab_3)
          have E2 := ((HB4.out.setCell (p := ⟨w.heap.size + 1 + 1, 45, none⟩) (Nat.le_refl _) (.int .u8 7)).setCell (p := ⟨w.heap.size + 1 + 1, 95, none⟩) (Nat.le_refl _) (.int .u8 7))
          have E3 : ∀ j v, (#[.string ⟨#[45, 95]⟩, .int .u8 1, .string ⟨#[48, 49, 50, 51, 52, 53, 54, 55, 56, 57, 45, 95]⟩, .int .u8 2, .string ⟨#[45, 95]⟩, .int .u8 4, .string ⟨#[]⟩, .int .u8 8, .string ⟨#[]⟩, .int .u8 16] : Array Value)[j]? = some v → ((W4.setCell ⟨w.heap.size + 1 + 1, 45, none⟩ (.int .u8 7)).setCell ⟨w.heap.size + 1 + 1, 95, none⟩ (.int .u8 7)).cell? ⟨b4, j, none⟩ = some v := fun j v hj => by
            rw [World.cell?_setCell_other _ _ _ _ (by intro e; injection e with e; omega), World.cell?_setCell_other _ _ _ _ (by intro e; injection e with e; omega)]
            exact HD4.out j v hj
          have E4 : b4 < ((W4.setCell ⟨w.heap.size + 1 + 1, 45, none⟩ (.int .u8 7)).setCell ⟨w.heap.size + 1 + 1, 95, none⟩ (.int .u8 7)).heap.size := by have := HS4.out; simpa [World.setCell] using this
          go_roundw
          case rel => exact ⟨3, by omega, by go_num, ⟨E1.cell, E1.free⟩, ⟨E2.os, E2.tape, E2.output, E2.size, E2.block⟩, E3, E4⟩
          case measure => simp [intOf]
        · have d0 := hD 6 _ rfl
          have d1 := hD 7 _ rfl
          have hgw : w.heap.size + 1 + 1 < wr.heap.size := by omega
          clear hR hB hD
          go_wp2
          obtain ⟨T, hT⟩ : ∃ T, wr.heap.size = T := ⟨_, rfl⟩
          obtain ⟨W4, hW4⟩ : ∃ W4, wr.alloc (.cells #[.string ⟨#[]⟩, .int .u8 8] 34) = W4 := ⟨_, rfl⟩
          rw [hT, hW4]
          have R4 : RowB W4 (w.heap.size + 1 + 1) (tab 3) := by rw [← hW4]; exact HR3.out.alloc _ hgw
          have B4 : Below (w.heap.size + 1 + 1) W1 W4 := by rw [← hW4]; exact HB3.out.alloc (by omega) _
          have D4 : ∀ j v, (#[.string ⟨#[45, 95]⟩, .int .u8 1, .string ⟨#[48, 49, 50, 51, 52, 53, 54, 55, 56, 57, 45, 95]⟩, .int .u8 2, .string ⟨#[45, 95]⟩, .int .u8 4, .string ⟨#[]⟩, .int .u8 8, .string ⟨#[]⟩, .int .u8 16] : Array Value)[j]? = some v → W4.cell? ⟨b4, j, none⟩ = some v := fun j v hj => by
            rw [← hW4, World.cell?_alloc_old _ _ _ (by simp; omega)]; exact HD3.out j v hj
          have S4 : b4 < W4.heap.size := by rw [← hW4]; simp; omega
          have t0 : W4.cell? ⟨T, 0, none⟩ = some (.string ⟨#[]⟩) := by rw [← hW4, ← hT]; exact cell_new wr _ 34 0 _ rfl
          have t1 : W4.cell? ⟨T, 1, none⟩ = some (.int .u8 8) := by rw [← hW4, ← hT]; exact cell_new wr _ 34 1 _ rfl
          have c13 := (B4.cell (p := ⟨w.heap.size, 13, none⟩) (by show w.heap.size < _; omega)).trans (HC1.out 13 _ rfl)
          have hTg : w.heap.size + 1 + 1 < T := by omega
          have hTw : w.heap.size < T := by omega
          have HR4 := hid R4
          have HB4 := hid B4
          have HD4 := hid D4
          have HS4 := hid S4
          clear R4 B4 D4 S4 hW4 hT
          refine wp_loop_rounds 1 ?_
          rw [rounds_succ]
          go_wp2
          have E1 := HR4.out.congr (tab_4)
          have E2 := HB4.out
          have E3 : ∀ j v, (#[.string ⟨#[45, 95]⟩, .int .u8 1, .string ⟨#[48, 49, 50, 51, 52, 53, 54, 55, 56, 57, 45, 95]⟩, .int .u8 2, .string ⟨#[45, 95]⟩, .int .u8 4, .string ⟨#[]⟩, .int .u8 8, .string ⟨#[]⟩, .int .u8 16] : Array Value)[j]? = some v → W4.cell? ⟨b4, j, none⟩ = some v := fun j v hj => by
            exact HD4.out j v hj
          have E4 : b4 < W4.heap.size := by have := HS4.out; simpa [World.setCell] using this
          go_roundw
          case rel => exact ⟨4, by omega, by go_num, ⟨E1.cell, E1.free⟩, ⟨E2.os, E2.tape, E2.output, E2.size, E2.block⟩, E3, E4⟩
          case measure => simp [intOf]
        · have d0 := hD 8 _ rfl
          have d1 := hD 9 _ rfl
          have hgw : w.heap.size + 1 + 1 < wr.heap.size := by omega
          clear hR hB hD
          go_wp2
          obtain ⟨T, hT⟩ : ∃ T, wr.heap.size = T := ⟨_, rfl⟩
          obtain ⟨W4, hW4⟩ : ∃ W4, wr.alloc (.cells #[.string ⟨#[]⟩, .int .u8 16] 34) = W4 := ⟨_, rfl⟩
          rw [hT, hW4]
          have R4 : RowB W4 (w.heap.size + 1 + 1) (tab 4) := by rw [← hW4]; exact HR3.out.alloc _ hgw
          have B4 : Below (w.heap.size + 1 + 1) W1 W4 := by rw [← hW4]; exact HB3.out.alloc (by omega) _
          have D4 : ∀ j v, (#[.string ⟨#[45, 95]⟩, .int .u8 1, .string ⟨#[48, 49, 50, 51, 52, 53, 54, 55, 56, 57, 45, 95]⟩, .int .u8 2, .string ⟨#[45, 95]⟩, .int .u8 4, .string ⟨#[]⟩, .int .u8 8, .string ⟨#[]⟩, .int .u8 16] : Array Value)[j]? = some v → W4.cell? ⟨b4, j, none⟩ = some v := fun j v hj => by
            rw [← hW4, World.cell?_alloc_old _ _ _ (by simp; omega)]; exact HD3.out j v hj
          have S4 : b4 < W4.heap.size := by rw [← hW4]; simp; omega
          have t0 : W4.cell? ⟨T, 0, none⟩ = some (.string ⟨#[]⟩) := by rw [← hW4, ← hT]; exact cell_new wr _ 34 0 _ rfl
          have t1 : W4.cell? ⟨T, 1, none⟩ = some (.int .u8 16) := by rw [← hW4, ← hT]; exact cell_new wr _ 34 1 _ rfl
          have c13 := (B4.cell (p := ⟨w.heap.size, 13, none⟩) (by show w.heap.size < _; omega)).trans (HC1.out 13 _ rfl)
          have hTg : w.heap.size + 1 + 1 < T := by omega
          have hTw : w.heap.size < T := by omega
          have HR4 := hid R4
          have HB4 := hid B4
          have HD4 := hid D4
          have HS4 := hid S4
          clear R4 B4 D4 S4 hW4 hT
          refine wp_loop_rounds 1 ?_
          rw [rounds_succ]
          go_wp2
          have E1 := HR4.out.congr (tab_5)
          have E2 := HB4.out
          have E3 : ∀ j v, (#[.string ⟨#[45, 95]⟩, .int .u8 1, .string ⟨#[48, 49, 50, 51, 52, 53, 54, 55, 56, 57, 45, 95]⟩, .int .u8 2, .string ⟨#[45, 95]⟩, .int .u8 4, .string ⟨#[]⟩, .int .u8 8, .string ⟨#[]⟩, .int .u8 16] : Array Value)[j]? = some v → W4.cell? ⟨b4, j, none⟩ = some v := fun j v hj => by
            exact HD4.out j v hj
          have E4 : b4 < W4.heap.size := by have := HS4.out; simpa [World.setCell] using this
          go_roundw
          case rel => exact ⟨5, by omega, by go_num, ⟨E1.cell, E1.free⟩, ⟨E2.os, E2.tape, E2.output, E2.size, E2.block⟩, E3, E4⟩
          case measure => simp [intOf]
        · have e0 := (hB.cell (p := ⟨w.heap.size, 0, none⟩) (by show w.heap.size < _; omega)).trans (HC1.out 0 _ rfl)
          have e1 := (hB.cell (p := ⟨w.heap.size, 1, none⟩) (by show w.heap.size < _; omega)).trans (HC1.out 1 _ rfl)
          have e2 := (hB.cell (p := ⟨w.heap.size, 2, none⟩) (by show w.heap.size < _; omega)).trans (HC1.out 2 _ rfl)
          have e3 := (hB.cell (p := ⟨w.heap.size, 3, none⟩) (by show w.heap.size < _; omega)).trans (HC1.out 3 _ rfl)
          have e4 := (hB.cell (p := ⟨w.heap.size, 4, none⟩) (by show w.heap.size < _; omega)).trans (HC1.out 4 _ rfl)
          have e5 := (hB.cell (p := ⟨w.heap.size, 5, none⟩) (by show w.heap.size < _; omega)).trans (HC1.out 5 _ rfl)
          have e6 := (hB.cell (p := ⟨w.heap.size, 6, none⟩) (by show w.heap.size < _; omega)).trans (HC1.out 6 _ rfl)
          have e7 := (hB.cell (p := ⟨w.heap.size, 7, none⟩) (by show w.heap.size < _; omega)).trans (HC1.out 7 _ rfl)
          have e8 := (hB.cell (p := ⟨w.heap.size, 8, none⟩) (by show w.heap.size < _; omega)).trans (HC1.out 8 _ rfl)
          have e9 := (hB.cell (p := ⟨w.heap.size, 9, none⟩) (by show w.heap.size < _; omega)).trans (HC1.out 9 _ rfl)
          have e10 := (hB.cell (p := ⟨w.heap.size, 10, none⟩) (by show w.heap.size < _; omega)).trans (HC1.out 10 _ rfl)
          have e11 := (hB.cell (p := ⟨w.heap.size, 11, none⟩) (by show w.heap.size < _; omega)).trans (HC1.out 11 _ rfl)
          have e12 := (hB.cell (p := ⟨w.heap.size, 12, none⟩) (by show w.heap.size < _; omega)).trans (HC1.out 12 _ rfl)
          have e13 := (hB.cell (p := ⟨w.heap.size, 13, none⟩) (by show w.heap.size < _; omega)).trans (HC1.out 13 _ rfl)
          have z0 := (hB.cell (p := ⟨w.heap.size + 1, 0, none⟩) (by show w.heap.size + 1 < _; omega)).trans (HC2.out 0 _ rfl)
          have z1 := (hB.cell (p := ⟨w.heap.size + 1, 1, none⟩) (by show w.heap.size + 1 < _; omega)).trans (HC2.out 1 _ rfl)
          have z2 := (hB.cell (p := ⟨w.heap.size + 1, 2, none⟩) (by show w.heap.size + 1 < _; omega)).trans (HC2.out 2 _ rfl)
          have z3 := (hB.cell (p := ⟨w.heap.size + 1, 3, none⟩) (by show w.heap.size + 1 < _; omega)).trans (HC2.out 3 _ rfl)
          have z4 := (hB.cell (p := ⟨w.heap.size + 1, 4, none⟩) (by show w.heap.size + 1 < _; omega)).trans (HC2.out 4 _ rfl)
          have z5 := (hB.cell (p := ⟨w.heap.size + 1, 5, none⟩) (by show w.heap.size + 1 < _; omega)).trans (HC2.out 5 _ rfl)
          have z6 := (hB.cell (p := ⟨w.heap.size + 1, 6, none⟩) (by show w.heap.size + 1 < _; omega)).trans (HC2.out 6 _ rfl)
          have z7 := (hB.cell (p := ⟨w.heap.size + 1, 7, none⟩) (by show w.heap.size + 1 < _; omega)).trans (HC2.out 7 _ rfl)
          have z8 := (hB.cell (p := ⟨w.heap.size + 1, 8, none⟩) (by show w.heap.size + 1 < _; omega)).trans (HC2.out 8 _ rfl)
          have z9 := (hB.cell (p := ⟨w.heap.size + 1, 9, none⟩) (by show w.heap.size + 1 < _; omega)).trans (HC2.out 9 _ rfl)
          have z10 := (hB.cell (p := ⟨w.heap.size + 1, 10, none⟩) (by show w.heap.size + 1 < _; omega)).trans (HC2.out 10 _ rfl)
          have z11 := (hB.cell (p := ⟨w.heap.size + 1, 11, none⟩) (by show w.heap.size + 1 < _; omega)).trans (HC2.out 11 _ rfl)
          have z12 := (hB.cell (p := ⟨w.heap.size + 1, 12, none⟩) (by show w.heap.size + 1 < _; omega)).trans (HC2.out 12 _ rfl)
          have z13 := (hB.cell (p := ⟨w.heap.size + 1, 13, none⟩) (by show w.heap.size + 1 < _; omega)).trans (HC2.out 13 _ rfl)
          have fz : ∀ j, wr.frozen? ⟨w.heap.size + 1, j, none⟩ = false := fun j => (hB.frozen (p := ⟨w.heap.size + 1, j, none⟩) (by show w.heap.size + 1 < _; omega)).trans (HF2.out j)
          clear hR hB hD
          go_wp2
          refine bodyPost_ret (v := .agg #[.string kind, .string sec, .bool false, .string ⟨#[45, 95]⟩, .string ⟨#[48, 49, 50, 51, 52, 53, 54, 55, 56, 57, 45, 95]⟩, .string ⟨#[45, 95]⟩, .string ⟨#[]⟩, .int .i64 0, .int .i64 0, .nilFunc, .slice none 0 0, .string ⟨#[]⟩, .slice none 0 0, .pointer (some ⟨w.heap.size + 1 + 1, 0, none⟩)]) (by simp [results, Yba.results6, go_sem, z0, z1, z2, z3, z4, z5, z6, z7, z8, z9, z10, z11, z12, z13]) rfl ⟨w.heap.size + 1 + 1, rfl, by omega, ?_, ?_⟩
          · have hn : w.heap.size + 1 ≠ w.heap.size + 1 + 1 := by omega
            exact ((((((((((((((HR3.out.other (i := 0) _ hn).other (i := 1) _ hn).other (i := 2) _ hn).other (i := 3) _ hn).other (i := 4) _ hn).other (i := 5) _ hn).other (i := 6) _ hn).other (i := 7) _ hn).other (i := 8) _ hn).other (i := 9) _ hn).other (i := 10) _ hn).other (i := 11) _ hn).other (i := 12) _ hn).other (i := 13) _ hn)
          · have hle : w.heap.size ≤ w.heap.size + 1 := by omega
            exact (((((((((((((((HB1.out.trans (HB3.out.mono (by omega))).setCell (p := ⟨w.heap.size + 1, 0, none⟩) hle _).setCell (p := ⟨w.heap.size + 1, 1, none⟩) hle _).setCell (p := ⟨w.heap.size + 1, 2, none⟩) hle _).setCell (p := ⟨w.heap.size + 1, 3, none⟩) hle _).setCell (p := ⟨w.heap.size + 1, 4, none⟩) hle _).setCell (p := ⟨w.heap.size + 1, 5, none⟩) hle _).setCell (p := ⟨w.heap.size + 1, 6, none⟩) hle _).setCell (p := ⟨w.heap.size + 1, 7, none⟩) hle _).setCell (p := ⟨w.heap.size + 1, 8, none⟩) hle _).setCell (p := ⟨w.heap.size + 1, 9, none⟩) hle _).setCell (p := ⟨w.heap.size + 1, 10, none⟩) hle _).setCell (p := ⟨w.heap.size + 1, 11, none⟩) hle _).setCell (p := ⟨w.heap.size + 1, 12, none⟩) hle _).setCell (p := ⟨w.heap.size + 1, 13, none⟩) hle _)
end Go.Proofs.Ybulkdjs
