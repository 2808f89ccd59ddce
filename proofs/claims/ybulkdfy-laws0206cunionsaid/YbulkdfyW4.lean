import Derived.Test.YbulkdfyW3
import Derived.RegionTactic
import Derived.BigRegion
import Derived.BigRegionIn
import Derived.RegionIn
namespace Go.Proofs.Ybulkdfy
open Go.RowKit Go.Shelf
set_option linter.unusedVariables false
attribute [local go_sem] Oper.semAt_some

def zero15 : Array Value := madeCells #[.int .u64 0] 15625
theorem zero15_get (i : Nat) (h : i < 15625) : zero15[i]? = some (.int .u64 0) := by
  unfold zero15 madeCells
  have : i % 1 = 0 := by omega
  simp [h, this]

theorem info43 : (Yba.prog.info? 43).map (fun i => (i.zero, i.size, i.bytes)) = some (some (.int .u64 0), 1, 8) := by kernel_rfl
theorem make15 (w : World) : (Instr.makeSlice 23 (.int .i64 15625) (.int .i64 15625)).run Yba.prog w = .ok (.slice (some ⟨w.heap.size, 0, none⟩) 15625 15625) (w.alloc (.cells zero15 43)) := by
  obtain ⟨i0, hi, hz0, hz1, hz2⟩ := info_parts info43
  have := run_make (P := Yba.prog) w 23 43 i0 (.int .u64 0) Yba.underlying23 hi hz0 .i64 .i64 15625 15625 (by omega) (by omega) (by rw [hz2]; omega) (by omega)
  rw [hz1] at this
  exact this

theorem made15 : ∃ Z : Array Value, (∀ i : Nat, i < 15625 → Z[i]? = some (.int .u64 0)) ∧ ∀ w : World, (Instr.makeSlice 23 (.int .i64 15625) (.int .i64 15625)).run Yba.prog w = .ok (.slice (some ⟨w.heap.size, 0, none⟩) 15625 15625) (w.alloc (.cells Z 43)) :=
  ⟨zero15, zero15_get, make15⟩
theorem hid {p : Prop} (h : p) : Hid p := h

def orW (ws : List Nat) (x : Nat × Nat) : List Nat := ws.set x.1 (ws[x.1]?.getD 0 ||| x.2)
def applyM (ws : List Nat) (l : List (Nat × Nat)) : List Nat := l.foldl orW ws
theorem applyM_snoc (ws : List Nat) (l : List (Nat × Nat)) (x : Nat × Nat) : applyM ws (l ++ [x]) = orW (applyM ws l) x := by simp [applyM]

/-- The set's words: block g's row, behind the cell of block Bs. -/
structure Holds (W : World) (Bs g : Nat) (ws : List Nat) : Prop where
  len : ws.length = 15625
  ne : g ≠ Bs
  cell : W.cell? ⟨Bs, 0, none⟩ = some (.slice (some ⟨g, 0, none⟩) 15625 15625)
  row : ∀ i : Nat, i < 15625 → W.cell? ⟨g, i, none⟩ = some (.int .u64 ((ws[i]?.getD 0 : Nat) : Int))
  free : ∀ i : Nat, i < 15625 → W.frozen? ⟨g, i, none⟩ = false
  lt : ∀ i : Nat, ws[i]?.getD 0 < 18446744073709551616

theorem Holds.kept {W W' : World} {Bs g : Nat} {ws : List Nat} {row : Option Nat} (h : Holds W Bs g ws) (hg : W.grownBy W' row) (hrow : ∀ r, row = some r → ∃ o : Obj, W.heap[r]? = some o ∧ o.isCells = false) : Holds W' Bs g ws :=
  ⟨h.len, h.ne, cell_kept h.cell hg hrow, fun i hi => cell_kept (h.row i hi) hg hrow, fun i hi => (frozen_kept (h.row i hi) hg hrow).trans (h.free i hi), h.lt⟩

theorem Holds.below {W W' : World} {Bs g : Nat} {ws : List Nat} (h : Holds W Bs g ws) (hb : Below W.heap.size W W') (h1 : Bs < W.heap.size) (h2 : g < W.heap.size) : Holds W' Bs g ws :=
  ⟨h.len, h.ne, (hb.cell (p := ⟨Bs, 0, none⟩) h1).trans h.cell, fun i hi => (hb.cell (p := ⟨g, i, none⟩) h2).trans (h.row i hi), fun i hi => (hb.frozen (p := ⟨g, i, none⟩) h2).trans (h.free i hi), h.lt⟩

theorem Holds.store {W : World} {Bs g : Nat} {ws : List Nat} (h : Holds W Bs g ws) (k m : Nat) (hk : k < 15625) (hm : m < 18446744073709551616) :
    Holds (W.setCell ⟨g, k, none⟩ (.int .u64 (((ws[k]?.getD 0 ||| m : Nat)) : Int))) Bs g (orW ws (k, m)) := by
  refine ⟨by simp [orW, h.len], h.ne, ?_, ?_, ?_, ?_⟩
  · rw [World.cell?_setCell_other _ _ _ _ (by intro e; injection e with e; exact h.ne e)]
    exact h.cell
  · intro i hi
    by_cases e : k = i
    · subst e
      rw [World.cell?_setCell_same' _ _ _ (by rw [h.row k hk]; rfl)]
      simp [orW, h.len, hk]
    · rw [World.cell?_setCell_other _ _ _ _ (by intro x; injection x with _ x; exact e x), h.row i hi]
      simp [orW, e]
  · intro i hi
    rw [World.frozen?_setCell]
    exact h.free i hi
  · intro i
    simp only [orW, List.getElem?_set]
    have := h.lt i
    have h3 : ws[k]?.getD 0 ||| m < 2 ^ 64 := Nat.or_lt_two_pow (h.lt k) hm
    split
    · split
      · exact h3
      · decide
    · exact this

set_option maxRecDepth 100000 in
set_option maxHeartbeats 2000000 in
theorem add_own (s1 s2 : ByteArray) (lo lo' hi hi' : Nat) (h1 : IsCode s1 lo lo') (h2 : IsCode s2 hi' hi) (hlh : lo ≤ hi) (hhi : hi < 1000000) (n0 Bs g : Nat) (ws : List Nat) (w : World)
    (hn1 : n0 ≤ Bs) (hn2 : n0 ≤ g) (hs1 : Bs < w.heap.size) (hs2 : g < w.heap.size) (hH : Holds w Bs g ws) :
    Calls Yba.prog 6 #[.pointer (some ⟨Bs, 0, none⟩), .agg #[.string s1, .string s2]] w fun e w' => e = .returned (.tuple #[]) ∧ Holds w' Bs g (applyM ws (pairs lo hi (hi / 64 + 1 - lo / 64))) ∧ Below n0 w w' ∧ (∀ b, b < w.heap.size → b ≠ g → w'.heap[b]? = w.heap[b]?) := by
  rw [← callsIn_wide (n := 5)]
  refine callsIn_of_wp_marks Yba.func6 rfl trivial ?_ rfl
  simp only [Yba.ntmps6, List.size_toArray, List.length_cons, List.length_nil, Nat.reduceAdd, Nat.reduceSub, Array.replicate_succ, Array.replicate_zero, List.push_toArray, List.append_toArray, List.nil_append, List.cons_append]
  have hc := hH.cell
  have heq : ∀ w : World, (binOp .eql 23 (.slice (some ⟨g, 0, none⟩) 15625 15625) (.slice none 0 0)).run Yba.prog w = .ok (.bool false) w := fun w => by kernel_rfl
  gi_wp2_with (refine ⟨trivial, ?_⟩; gi_at_call 10; refine (callsIn_wide.2 (words_any s1 s2 lo lo' hi hi' h1 h2 _)).mono ?_; rintro e w1 ⟨B1, B2, hb1, hb2, rfl, hc1, hc2, hB⟩)
  have hz : w.heap.size + 2 ≤ w1.heap.size := by have := hB.size; simp at this; omega
  have hW0 : Below w.heap.size w w1 := (((Below.refl _ _).alloc (Nat.le_refl _) _).alloc (by simp) _).trans (hB.mono (by simp; omega))
  have hbox : w1.cell? ⟨w.heap.size, 0, none⟩ = some (.pointer (some ⟨Bs, 0, none⟩)) := (hB.cell (p := ⟨w.heap.size, 0, none⟩) (by simp; omega)).trans (by simp)
  simp only [World.size_alloc] at hb1 hb2
  have hl1 : B1 < w1.heap.size := World.block_lt_of_cell? w1 _ hc1
  have hl2 : B2 < w1.heap.size := World.block_lt_of_cell? w1 _ hc2
  refine wpIn_rangeFunc_ownF rfl (by omega) (gf := 13) (lb := #[.pointer (some ⟨B1, 0, none⟩), .pointer (some ⟨B2, 0, none⟩)]) rfl trivial (enters_of Yba.func13 (by kernel_rfl) rfl)
    (words_stops 4 (by omega) B1 B2 lo hi hlh hhi w1 hl1 hl2 hc1 hc2) (Kp := KpB B1 B2) ?hKt ?hKb (Below.refl _ _) (fun _ => rfl)
    (fun pre W => (Holds W Bs g (applyM ws (pre.map (·.1))) ∧ W.cell? ⟨w.heap.size, 0, none⟩ = some (.pointer (some ⟨Bs, 0, none⟩))) ∧ Below n0 w W ∧ (∀ b, b < w.heap.size → b ≠ g → W.heap[b]? = w.heap[b]?))
    (fun _ _ _ => False) ?hI (fun _ _ _ _ _ hs _ _ => hs) ?h0
    (fun x => { tmps := #[.pointer (some ⟨Bs, 0, none⟩), .agg #[.string s1, .string s2], .pointer (some ⟨w.heap.size, 0, none⟩), .pointer (some ⟨w.heap.size + 1, 0, none⟩), .int .i64 (x.1.1 : Int), .int .u64 (x.1.2 : Int), .pointer (some ⟨Bs, 0, none⟩), .pointer (some ⟨Bs, 0, none⟩), .pointer (some ⟨Bs, 0, none⟩), .slice (some ⟨g, 0, none⟩) 15625 15625, .bool false, undef, undef, undef, undef, .agg #[.string s1, .string s2], .func (.func 13) #[] #[.pointer (some ⟨B1, 0, none⟩), .pointer (some ⟨B2, 0, none⟩)], .int .i64 (x.1.1 : Int), .int .u64 (x.1.2 : Int), undef, undef, undef, undef, undef, undef, undef, undef, undef, undef], defers := [] }) ?assign ?body ?done ?stop
  case hKt => exact fun h k => ⟨fun v hv => k.1 v (h.1 v hv), fun v hv => k.2 v (h.2 v hv)⟩
  case hKb =>
    intro W l o o' hl ho hoc how
    exact ⟨fun v hv => cell_kept hv (grownBy_putObj' W l o') (fun r e => by cases e; exact ⟨o, ho, hoc⟩), fun v hv => cell_kept hv (grownBy_putObj' W l o') (fun r e => by cases e; exact ⟨o, ho, hoc⟩)⟩
  case hI =>
    intro s A B row hs hg hr
    have hr' : ∀ r, row = some r → ∃ o : Obj, A.heap[r]? = some o ∧ o.isCells = false := fun r e => (hr r e).2
    have hsz := hs.2.1.size
    refine ⟨⟨hs.1.1.kept hg hr', cell_kept hs.1.2 hg hr'⟩, hs.2.1.grown hg (by omega) (fun k e => by have := (hr k e).1; omega), fun b hb hne => ?_⟩
    exact (hg.block b (by omega) (fun e => by have := (hr b e.symm).1; omega)).trans (hs.2.2 b hb hne)
  case h0 => exact ⟨⟨(hH.below hW0 hs1 hs2), hbox⟩, hW0.mono (by omega), fun b hb _ => hW0.block b hb⟩
  case assign =>
    intro l x W K hK
    dsimp only [encMW]
    gi_wp2
    exact hK
  case body =>
    rintro l pre ⟨⟨k, m⟩, hk, hm⟩ W ⟨⟨hh, hbx⟩, hbl, hfr⟩ _
    have hk1 : (k : Int) < 15625 := by have : k < 15625 := hk; omega
    have hcc := hh.cell
    have hfz := hh.free k hk
    obtain ⟨v, hv⟩ : ∃ v, v = (applyM ws (pre.map (·.1)))[k]?.getD 0 := ⟨_, rfl⟩
    have hrw := hh.row k hk
    rw [← hv] at hrw
    have hor := (bitsE v m (by rw [hv]; exact hh.lt k) hm).2
    have hst := hh.store k m hk hm
    rw [← hv] at hst
    have HST := hid hst
    have HV := hid hv
    have HH := hid hh
    have HF := hid hfr
    have hgk : W.heap.size = W.heap.size := rfl
    clear hst hv hh hfr hgk hc heq
    dsimp only at hk1 hcc hfz hrw hor ⊢
    gi_wp2
    refine ⟨KeepsOthers.setCell _ _ _, ⟨fun u hu => ?_, fun u hu => ?_⟩, ⟨?_, ?_⟩, hbl.setCell (p := ⟨g, k, none⟩) hn2 _, fun b hb hne => ?_⟩
    · rw [World.cell?_setCell_other _ _ _ _ (by intro e; injection e with e; omega)]; exact hu
    · rw [World.cell?_setCell_other _ _ _ _ (by intro e; injection e with e; omega)]; exact hu
    · rw [List.map_append, List.map_cons, List.map_nil, applyM_snoc]; exact HST
    · rw [World.cell?_setCell_other _ _ _ _ (by intro e; injection e with e; omega)]; exact hbx
    · exact (Below.heap_setCell W ⟨g, k, none⟩ _ b hne).trans (HF.out b hb hne)
  case done =>
    rintro D ys W hD hS ⟨⟨hh, hbx⟩, hbl, hfr⟩ hK
    gi_wp2
    refine ⟨by simp, .inl ⟨_, _, rfl, run_takeDeferred hK, ?_⟩⟩
    have hg := grownBy_putObj' W D (.deferred none)
    have hr : ∀ r, some D = some r → ∃ o : Obj, W.heap[r]? = some o ∧ o.isCells = false := fun r e => by cases e; exact ⟨_, hK, rfl⟩
    rw [hS] at hh
    have hsz := hbl.size
    exact ⟨_, results_none rfl _ _ _, rfl, hh.kept hg hr, hbl.grown hg (by omega) (fun k e => by cases e; omega), fun b hb hne => (hg.block b (by omega) (fun e => by cases e; omega)).trans (hfr b hb hne)⟩
  case stop =>
    rintro D c pre W _ _ h _
    exact h.elim

def zeroL : List Nat := List.replicate 15625 0
theorem zeroL_len : zeroL.length = 15625 := List.length_replicate
theorem zeroL_get (i : Nat) : zeroL[i]?.getD 0 = 0 := by
  unfold zeroL
  rw [List.getElem?_replicate]
  split <;> rfl

set_option maxRecDepth 100000 in
set_option maxHeartbeats 2000000 in
theorem add_nil (s1 s2 : ByteArray) (lo lo' hi hi' : Nat) (h1 : IsCode s1 lo lo') (h2 : IsCode s2 hi' hi) (hlh : lo ≤ hi) (hhi : hi < 1000000) (n0 Bs : Nat) (w : World)
    (hn1 : n0 ≤ Bs) (hs1 : Bs < w.heap.size) (hH : w.cell? ⟨Bs, 0, none⟩ = some (.slice none 0 0)) (hfB : w.frozen? ⟨Bs, 0, none⟩ = false) :
    Calls Yba.prog 6 #[.pointer (some ⟨Bs, 0, none⟩), .agg #[.string s1, .string s2]] w fun e w' => e = .returned (.tuple #[]) ∧ ∃ g, w.heap.size ≤ g ∧ Holds w' Bs g (applyM zeroL (pairs lo hi (hi / 64 + 1 - lo / 64))) ∧ Below n0 w w' ∧ (∀ b, b < w.heap.size → b ≠ Bs → w'.heap[b]? = w.heap[b]?) := by
  rw [← callsIn_wide (n := 5)]
  refine callsIn_of_wp_marks Yba.func6 rfl trivial ?_ rfl
  simp only [Yba.ntmps6, List.size_toArray, List.length_cons, List.length_nil, Nat.reduceAdd, Nat.reduceSub, Array.replicate_succ, Array.replicate_zero, List.push_toArray, List.append_toArray, List.nil_append, List.cons_append]
  have heq : ∀ w : World, (binOp .eql 23 (.slice none 0 0) (.slice none 0 0)).run Yba.prog w = .ok (.bool true) w := fun w => by kernel_rfl
  obtain ⟨Z, hZ, hmk⟩ := made15
  have hcc : ∀ a b c : Obj, (((w.alloc a).alloc b).alloc c).cell? ⟨Bs, 0, none⟩ = some (.slice none 0 0) := fun a b c => by
    rw [cell_alloc_lt _ _ _ _ (by simp; omega), cell_alloc_lt _ _ _ _ (by simp; omega), cell_alloc_lt _ _ _ _ hs1]; exact hH
  have hff : ∀ a b c : Obj, (((w.alloc a).alloc b).alloc c).frozen? ⟨Bs, 0, none⟩ = false := fun a b c => by
    rw [World.frozen?_alloc_old _ _ _ (by simp; omega), World.frozen?_alloc_old _ _ _ (by simp; omega), World.frozen?_alloc_old _ _ _ (by simp; omega)]; exact hfB
  gi_wp2_with fail
  gi_region
  obtain ⟨g, hg⟩ : ∃ g, w.heap.size + 1 + 1 = g := ⟨_, rfl⟩
  rw [hg]
  obtain ⟨W2, hW2⟩ : ∃ W2, ((((w.alloc (.cells #[.pointer (some ⟨Bs, 0, none⟩)] 39)).alloc (.cells #[.string s1, .string s2] 29)).alloc (.cells Z 43)).setCell ⟨Bs, 0, none⟩ (.slice (some ⟨g, 0, none⟩) 15625 15625)).drew = W2 := ⟨_, rfl⟩
  rw [hW2]
  have hsz2 : W2.heap.size = w.heap.size + 3 := by rw [← hW2]; simp
  have hcell2 : ∀ (b o : Nat), b ≠ Bs → W2.cell? ⟨b, o, none⟩ = (((w.alloc (.cells #[.pointer (some ⟨Bs, 0, none⟩)] 39)).alloc (.cells #[.string s1, .string s2] 29)).alloc (.cells Z 43)).cell? ⟨b, o, none⟩ := fun b o hb => by
    rw [← hW2, World.cell?_drew, World.cell?_setCell_other _ _ _ _ (by intro e; injection e with e; exact hb e.symm)]
  have q0 : W2.cell? ⟨w.heap.size, 0, none⟩ = some (.pointer (some ⟨Bs, 0, none⟩)) := by
    rw [hcell2 _ _ (by omega), cell_alloc_lt _ _ _ _ (by simp; omega), cell_alloc_lt _ _ _ _ (by simp)]; exact cell_new w _ 39 0 _ rfl
  have q1 : W2.cell? ⟨w.heap.size + 1, 0, none⟩ = some (.string s1) := by
    rw [hcell2 _ _ (by omega), cell_alloc_lt _ _ _ _ (by simp)]
    have := cell_new (w.alloc (.cells #[.pointer (some ⟨Bs, 0, none⟩)] 39)) #[.string s1, .string s2] 29 0 _ rfl
    rwa [World.size_alloc] at this
  have q2 : W2.cell? ⟨w.heap.size + 1, 1, none⟩ = some (.string s2) := by
    rw [hcell2 _ _ (by omega), cell_alloc_lt _ _ _ _ (by simp)]
    have := cell_new (w.alloc (.cells #[.pointer (some ⟨Bs, 0, none⟩)] 39)) #[.string s1, .string s2] 29 1 _ rfl
    rwa [World.size_alloc] at this
  have hHW : Holds W2 Bs g zeroL := by
    refine ⟨zeroL_len, by omega, ?_, fun i hi => ?_, fun i hi => ?_, fun i => by rw [zeroL_get]; decide⟩
    · rw [← hW2, World.cell?_drew]
      exact World.cell?_setCell_same' _ _ _ (by rw [hcc]; rfl)
    · rw [hcell2 _ _ (by omega), zeroL_get, ← hg]
      have := cell_new ((w.alloc (.cells #[.pointer (some ⟨Bs, 0, none⟩)] 39)).alloc (.cells #[.string s1, .string s2] 29)) Z 43 i _ (hZ i hi)
      simpa using this
    · rw [← hW2]
      show (World.setCell _ _ _).frozen? _ = false
      rw [World.frozen?_setCell, frozen?_alloc_cells, World.frozen?_alloc_old _ _ _ (by simp; omega), World.frozen?_alloc_old _ _ _ (by simp; omega)]
      unfold World.frozen?
      rw [Array.getElem?_eq_none (by simp; omega)]
  have hBl2 : Below n0 w W2 := by
    rw [← hW2]
    exact ((((((Below.refl _ _).alloc (by omega) _).alloc (by simp; omega) _).alloc (by simp; omega) _).setCell (p := ⟨Bs, 0, none⟩) hn1 _)).drew
  have hfr2 : ∀ b, b < w.heap.size → b ≠ Bs → W2.heap[b]? = w.heap[b]? := fun b hb hne => by
    rw [← hW2]
    show (World.setCell _ _ _).heap[b]? = _
    rw [Below.heap_setCell _ _ _ _ hne, Below.heap_alloc _ _ _ (by simp; omega), Below.heap_alloc _ _ _ (by simp; omega), Below.heap_alloc _ _ _ hb]
  have HF2 := hid hfr2
  have HZ2 := hid hsz2
  have HG := hid hg
  have hlt2 : w.heap.size + 1 < W2.heap.size := by omega
  have hltg : g < W2.heap.size := by omega
  have hgw : w.heap.size + 1 < g := by omega
  clear hcc hff hcell2 hfr2 hsz2 hg hW2 heq hmk hH hfB hZ
  gi_wp2_with (refine ⟨trivial, ?_⟩; gi_at_call 10; refine (callsIn_wide.2 (words_any s1 s2 lo lo' hi hi' h1 h2 _)).mono ?_; rintro e w1 ⟨B1, B2, hb1, hb2, rfl, hc1, hc2, hB⟩)
  have hz : W2.heap.size ≤ w1.heap.size := hB.size
  have hbox : w1.cell? ⟨w.heap.size, 0, none⟩ = some (.pointer (some ⟨Bs, 0, none⟩)) := (hB.cell (p := ⟨w.heap.size, 0, none⟩) (by simp; omega)).trans q0
  have hl1 : B1 < w1.heap.size := World.block_lt_of_cell? w1 _ hc1
  have hl2 : B2 < w1.heap.size := World.block_lt_of_cell? w1 _ hc2
  refine wpIn_rangeFunc_ownF rfl (by omega) (gf := 13) (lb := #[.pointer (some ⟨B1, 0, none⟩), .pointer (some ⟨B2, 0, none⟩)]) rfl trivial (enters_of Yba.func13 (by kernel_rfl) rfl)
    (words_stops 4 (by omega) B1 B2 lo hi hlh hhi w1 hl1 hl2 hc1 hc2) (Kp := KpB B1 B2) ?hKt ?hKb (Below.refl _ _) (fun _ => rfl)
    (fun pre W => (Holds W Bs g (applyM zeroL (pre.map (·.1))) ∧ W.cell? ⟨w.heap.size, 0, none⟩ = some (.pointer (some ⟨Bs, 0, none⟩))) ∧ Below n0 w W ∧ (∀ b, b < w.heap.size → b ≠ Bs → W.heap[b]? = w.heap[b]?))
    (fun _ _ _ => False) ?hI (fun _ _ _ _ _ hs _ _ => hs) ?h0
    (fun x => { tmps := #[.pointer (some ⟨Bs, 0, none⟩), .agg #[.string s1, .string s2], .pointer (some ⟨w.heap.size, 0, none⟩), .pointer (some ⟨w.heap.size + 1, 0, none⟩), .int .i64 (x.1.1 : Int), .int .u64 (x.1.2 : Int), .pointer (some ⟨Bs, 0, none⟩), .pointer (some ⟨Bs, 0, none⟩), .pointer (some ⟨Bs, 0, none⟩), .slice none 0 0, .bool true, .pointer (some ⟨Bs, 0, none⟩), .slice (some ⟨g, 0, none⟩) 15625 15625, .pointer (some ⟨Bs, 0, none⟩), .pointer (some ⟨Bs, 0, none⟩), .agg #[.string s1, .string s2], .func (.func 13) #[] #[.pointer (some ⟨B1, 0, none⟩), .pointer (some ⟨B2, 0, none⟩)], .int .i64 (x.1.1 : Int), .int .u64 (x.1.2 : Int), undef, undef, undef, undef, undef, undef, undef, undef, undef, undef], defers := [] }) ?assign ?body ?done ?stop
  case hKt => exact fun h k => ⟨fun v hv => k.1 v (h.1 v hv), fun v hv => k.2 v (h.2 v hv)⟩
  case hKb =>
    intro W l o o' hl ho hoc how
    exact ⟨fun v hv => cell_kept hv (grownBy_putObj' W l o') (fun r e => by cases e; exact ⟨o, ho, hoc⟩), fun v hv => cell_kept hv (grownBy_putObj' W l o') (fun r e => by cases e; exact ⟨o, ho, hoc⟩)⟩
  case hI =>
    intro s A B row hs hg hr
    have hr' : ∀ r, row = some r → ∃ o : Obj, A.heap[r]? = some o ∧ o.isCells = false := fun r e => (hr r e).2
    have hsz := hs.2.1.size
    refine ⟨⟨hs.1.1.kept hg hr', cell_kept hs.1.2 hg hr'⟩, hs.2.1.grown hg (by omega) (fun k e => by have := (hr k e).1; omega), fun b hb hne => ?_⟩
    exact (hg.block b (by omega) (fun e => by have := (hr b e.symm).1; omega)).trans (hs.2.2 b hb hne)
  case h0 => exact ⟨⟨(hHW.below hB (by omega) hltg), hbox⟩, hBl2.trans (hB.mono (by omega)), fun b hb hne => (hB.block b (by omega)).trans (HF2.out b hb hne)⟩
  case assign =>
    intro l x W K hK
    dsimp only [encMW]
    gi_wp2
    exact hK
  case body =>
    rintro l pre ⟨⟨k, m⟩, hk, hm⟩ W ⟨⟨hh, hbx⟩, hbl, hfr⟩ _
    have hk1 : (k : Int) < 15625 := by have : k < 15625 := hk; omega
    have hcc := hh.cell
    have hfz := hh.free k hk
    obtain ⟨v, hv⟩ : ∃ v, v = (applyM zeroL (pre.map (·.1)))[k]?.getD 0 := ⟨_, rfl⟩
    have hrw := hh.row k hk
    rw [← hv] at hrw
    have hor := (bitsE v m (by rw [hv]; exact hh.lt k) hm).2
    have hst := hh.store k m hk hm
    rw [← hv] at hst
    have HST := hid hst
    have HV := hid hv
    have HH := hid hh
    have HF := hid hfr
    have hgk : W.heap.size = W.heap.size := rfl
    clear hst hv hh hfr hgk
    dsimp only at hk1 hcc hfz hrw hor ⊢
    gi_wp2
    refine ⟨KeepsOthers.setCell _ _ _, ⟨fun u hu => ?_, fun u hu => ?_⟩, ⟨?_, ?_⟩, hbl.setCell (p := ⟨g, k, none⟩) (by show n0 ≤ g; omega) _, fun b hb hne => ?_⟩
    · rw [World.cell?_setCell_other _ _ _ _ (by intro e; injection e with e; omega)]; exact hu
    · rw [World.cell?_setCell_other _ _ _ _ (by intro e; injection e with e; omega)]; exact hu
    · rw [List.map_append, List.map_cons, List.map_nil, applyM_snoc]; exact HST
    · rw [World.cell?_setCell_other _ _ _ _ (by intro e; injection e with e; omega)]; exact hbx
    · exact (Below.heap_setCell W ⟨g, k, none⟩ _ b (by show b ≠ g; omega)).trans (HF.out b hb hne)
  case done =>
    rintro D ys W hD hS ⟨⟨hh, hbx⟩, hbl, hfr⟩ hK
    gi_wp2
    refine ⟨by simp, .inl ⟨_, _, rfl, run_takeDeferred hK, ?_⟩⟩
    have hg := grownBy_putObj' W D (.deferred none)
    have hr : ∀ r, some D = some r → ∃ o : Obj, W.heap[r]? = some o ∧ o.isCells = false := fun r e => by cases e; exact ⟨_, hK, rfl⟩
    rw [hS] at hh
    have hsz := hbl.size
    exact ⟨_, results_none rfl _ _ _, rfl, g, by omega, hh.kept hg hr, hbl.grown hg (by omega) (fun k e => by cases e; omega), fun b hb hne => (hg.block b (by omega) (fun e => by cases e; omega)).trans (hfr b hb hne)⟩
  case stop =>
    rintro D c pre W _ _ h _
    exact h.elim

end Go.Proofs.Ybulkdfy
