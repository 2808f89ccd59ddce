import Derived.Test.YbulkdjsRows
import Derived.WalkKit
import Derived.WalkLawsBesides
import Derived.WalkSpells
import Derived.Below
import Derived.Laws.EntriesVeiled
import Derived.RegionTactic
import Derived.BigRegion
namespace Go.Proofs.Ybulkdjs
open Go.RowKit
set_option linter.unusedVariables false

theorem hid {p : Prop} (h : p) : Hid p := h
theorem zero32 : ∃ Z : Array Value, (∀ i : Nat, i < 256 → Z[i]? = some (.int .u8 0)) ∧ ∀ w : World, (zeroValue 32).run Yba.prog w = .ok (.agg Z) w :=
  ⟨Array.replicate 256 (.int .u8 0), fun i hi => by rw [Array.getElem?_replicate, if_pos hi], fun w => by kernel_rfl⟩

/-- The table of classes at block g. -/
structure RowB (W : World) (g : Nat) (f : Nat → Nat) : Prop where
  cell : ∀ i : Nat, i < 256 → W.cell? ⟨g, i, none⟩ = some (.int .u8 ((f i : Nat) : Int))
  free : ∀ i : Nat, i < 256 → W.frozen? ⟨g, i, none⟩ = false

def upd (f : Nat → Nat) (i v : Nat) : Nat → Nat := fun j => if j = i then v else f j
theorem RowB.store {W : World} {g : Nat} {f : Nat → Nat} (h : RowB W g f) (i v : Nat) (hi : i < 256) : RowB (W.setCell ⟨g, i, none⟩ (.int .u8 (v : Int))) g (upd f i v) := by
  refine ⟨fun j hj => ?_, fun j hj => ?_⟩
  · by_cases e : j = i
    · subst e
      rw [World.cell?_setCell_same' _ _ _ (by rw [h.cell j hj]; rfl)]
      simp [upd]
    · rw [World.cell?_setCell_other _ _ _ _ (by intro x; injection x with _ x; exact e x.symm), h.cell j hj]
      simp [upd, e]
  · rw [World.frozen?_setCell]; exact h.free j hj
theorem RowB.other {W : World} {g g' i : Nat} {f : Nat → Nat} (h : RowB W g f) (v : Value) (hg : g' ≠ g) : RowB (W.setCell ⟨g', i, none⟩ v) g f :=
  ⟨fun j hj => by rw [World.cell?_setCell_other _ _ _ _ (by intro x; injection x with x _; exact hg x)]; exact h.cell j hj, fun j hj => by rw [World.frozen?_setCell]; exact h.free j hj⟩
theorem RowB.below {W W' : World} {g B : Nat} {f : Nat → Nat} (h : RowB W g f) (hb : Below B W W') (hg : g < B) : RowB W' g f :=
  ⟨fun j hj => (hb.cell (p := ⟨g, j, none⟩) hg).trans (h.cell j hj), fun j hj => (hb.frozen (p := ⟨g, j, none⟩) hg).trans (h.free j hj)⟩
theorem RowB.alloc {W : World} {g : Nat} {f : Nat → Nat} (h : RowB W g f) (o : Obj) (hg : g < W.heap.size) : RowB (W.alloc o) g f :=
  h.below ((Below.refl W.heap.size W).alloc (Nat.le_refl _) o) hg
theorem RowB.congr {W : World} {g : Nat} {f f' : Nat → Nat} (h : RowB W g f) (e : ∀ i, i < 256 → f i = f' i) : RowB W g f' :=
  ⟨fun i hi => by rw [← e i hi]; exact h.cell i hi, h.free⟩
theorem cell_new (w : World) (c : Array Value) (t : TypeId) (i : Nat) (v : Value) (h : c[i]? = some v) : (w.alloc (.cells c t)).cell? ⟨w.heap.size, i, none⟩ = some v := by
  have e : (w.alloc (.cells c t)).heap[w.heap.size]? = some (.cells c t) := (MapKept.heap_alloc w _).1
  unfold World.cell?
  simp only
  rw [e]
  exact h
theorem frozen_new (w : World) (c : Array Value) (t : TypeId) (o : Nat) : (w.alloc (.cells c t)).frozen? ⟨w.heap.size, o, none⟩ = false := by
  rw [frozen?_alloc_cells]
  unfold World.frozen?
  rw [Array.getElem?_eq_none (by simp)]

/-- A letter or a digit. -/
def base (i : Nat) : Nat := if (97 ≤ i ∧ i ≤ 122) ∨ (65 ≤ i ∧ i ≤ 90) ∨ (48 ≤ i ∧ i ≤ 57) then 1 else 0
/-- The table when the first k bytes are judged. -/
def bk (k i : Nat) : Nat := if i < k then base i else 0

theorem bk_yes (k : Nat) (h : (97 ≤ k ∧ k ≤ 122) ∨ (65 ≤ k ∧ k ≤ 90) ∨ (48 ≤ k ∧ k ≤ 57)) : ∀ i, i < 256 → upd (bk k) k 1 i = bk (k + 1) i := fun i _ => by
  unfold upd bk
  by_cases e : i = k
  · subst e
    rw [if_pos rfl, if_pos (by omega)]
    unfold base
    rw [if_pos h]
  · rw [if_neg e]
    by_cases c : i < k
    · rw [if_pos c, if_pos (by omega)]
    · rw [if_neg c, if_neg (by omega)]
theorem bk_no (k : Nat) (h : ¬ ((97 ≤ k ∧ k ≤ 122) ∨ (65 ≤ k ∧ k ≤ 90) ∨ (48 ≤ k ∧ k ≤ 57))) : ∀ i, i < 256 → bk k i = bk (k + 1) i := fun i _ => by
  unfold bk
  by_cases e : i = k
  · subst e
    rw [if_neg (by omega), if_pos (by omega)]
    unfold base
    rw [if_neg h]
  · by_cases c : i < k
    · rw [if_pos c, if_pos (by omega)]
    · rw [if_neg c, if_neg (by omega)]

/-- The table when the first j sets are laid. -/
def tab (j i : Nat) : Nat :=
  base i ||| (if 1 ≤ j ∧ (i = 45 ∨ i = 95) then 1 else 0) ||| (if 2 ≤ j ∧ (i = 45 ∨ i = 95 ∨ (48 ≤ i ∧ i ≤ 57)) then 2 else 0) ||| (if 3 ≤ j ∧ (i = 45 ∨ i = 95) then 4 else 0)
theorem tab_0 : ∀ i, i < 256 → bk 256 i = tab 0 i := by decide +kernel
theorem tab_1 : ∀ i, i < 256 → (upd (upd (tab 0) 45 1) 95 1) i = tab 1 i := by decide +kernel
theorem tab_2 : ∀ i, i < 256 → (upd (upd (upd (upd (upd (upd (upd (upd (upd (upd (upd (upd (tab 1) 48 3) 49 3) 50 3) 51 3) 52 3) 53 3) 54 3) 55 3) 56 3) 57 3) 45 3) 95 3) i = tab 2 i := by decide +kernel
theorem tab_3 : ∀ i, i < 256 → (upd (upd (tab 2) 45 7) 95 7) i = tab 3 i := by decide +kernel
theorem tab_4 : ∀ i, i < 256 → (tab 3) i = tab 4 i := by decide +kernel
theorem tab_5 : ∀ i, i < 256 → (tab 4) i = tab 5 i := by decide +kernel

/-- What a round over the second set keeps. -/
structure Inn (s : ByteArray) (W1 : World) (n b4 T : Nat) (f : Nat → Nat) (W : World) : Prop where
  row : RowB W (n + 1 + 1) f
  bel : Below (n + 1 + 1) W1 W
  dd : ∀ j v, (#[.string ⟨#[45, 95]⟩, .int .u8 1, .string ⟨#[48, 49, 50, 51, 52, 53, 54, 55, 56, 57, 45, 95]⟩, .int .u8 2, .string ⟨#[45, 95]⟩, .int .u8 4, .string ⟨#[]⟩, .int .u8 8, .string ⟨#[]⟩, .int .u8 16] : Array Value)[j]? = some v → W.cell? ⟨b4, j, none⟩ = some v
  sz : b4 < W.heap.size
  t0 : W.cell? ⟨T, 0, none⟩ = some (.string s)
  t1 : W.cell? ⟨T, 1, none⟩ = some (.int .u8 2)
theorem Inn.store {s : ByteArray} {W1 W : World} {n b4 T : Nat} {f : Nat → Nat} (h : Inn s W1 n b4 T f W) (hb : n + 1 + 1 < b4) (hT : n + 1 + 1 < T) (i v : Nat) (hi : i < 256) : Inn s W1 n b4 T (upd f i v) (W.setCell ⟨n + 1 + 1, i, none⟩ (.int .u8 (v : Int))).drew :=
  ⟨⟨(h.row.store i v hi).cell, (h.row.store i v hi).free⟩, (h.bel.setCell (p := ⟨n + 1 + 1, i, none⟩) (Nat.le_refl _) _).drew,
   fun j u hj => (World.cell?_setCell_other _ _ _ _ (by intro e; injection e with e; omega)).trans (h.dd j u hj), by show b4 < (W.setCell _ _).heap.size; rw [World.size_setCell]; exact h.sz,
   (World.cell?_setCell_other _ _ _ _ (by intro e; injection e with e; omega)).trans h.t0, (World.cell?_setCell_other _ _ _ _ (by intro e; injection e with e; omega)).trans h.t1⟩
/-- The table when the first m bytes of the second set are laid. -/
def uu (m i : Nat) : Nat := if (48 ≤ i ∧ i ≤ 57 ∧ i < 48 + m) ∨ (i = 45 ∧ 11 ≤ m) ∨ (i = 95 ∧ 12 ≤ m) then 3 else tab 1 i
theorem uu_first : ∀ i, i < 256 → tab 1 i = uu 0 i := by decide +kernel
theorem uu_last : ∀ i, i < 256 → uu 12 i = tab 2 i := by decide +kernel
theorem uu_s0 : ∀ i, i < 256 → upd (uu 0) 48 3 i = uu 1 i := by decide +kernel
theorem uu_q0 : uu 0 48 = 1 := by decide +kernel
theorem uu_s1 : ∀ i, i < 256 → upd (uu 1) 49 3 i = uu 2 i := by decide +kernel
theorem uu_q1 : uu 1 49 = 1 := by decide +kernel
theorem uu_s2 : ∀ i, i < 256 → upd (uu 2) 50 3 i = uu 3 i := by decide +kernel
theorem uu_q2 : uu 2 50 = 1 := by decide +kernel
theorem uu_s3 : ∀ i, i < 256 → upd (uu 3) 51 3 i = uu 4 i := by decide +kernel
theorem uu_q3 : uu 3 51 = 1 := by decide +kernel
theorem uu_s4 : ∀ i, i < 256 → upd (uu 4) 52 3 i = uu 5 i := by decide +kernel
theorem uu_q4 : uu 4 52 = 1 := by decide +kernel
theorem uu_s5 : ∀ i, i < 256 → upd (uu 5) 53 3 i = uu 6 i := by decide +kernel
theorem uu_q5 : uu 5 53 = 1 := by decide +kernel
theorem uu_s6 : ∀ i, i < 256 → upd (uu 6) 54 3 i = uu 7 i := by decide +kernel
theorem uu_q6 : uu 6 54 = 1 := by decide +kernel
theorem uu_s7 : ∀ i, i < 256 → upd (uu 7) 55 3 i = uu 8 i := by decide +kernel
theorem uu_q7 : uu 7 55 = 1 := by decide +kernel
theorem uu_s8 : ∀ i, i < 256 → upd (uu 8) 56 3 i = uu 9 i := by decide +kernel
theorem uu_q8 : uu 8 56 = 1 := by decide +kernel
theorem uu_s9 : ∀ i, i < 256 → upd (uu 9) 57 3 i = uu 10 i := by decide +kernel
theorem uu_q9 : uu 9 57 = 1 := by decide +kernel
theorem uu_s10 : ∀ i, i < 256 → upd (uu 10) 45 3 i = uu 11 i := by decide +kernel
theorem uu_q10 : uu 10 45 = 1 := by decide +kernel
theorem uu_s11 : ∀ i, i < 256 → upd (uu 11) 95 3 i = uu 12 i := by decide +kernel
theorem uu_q11 : uu 11 95 = 1 := by decide +kernel
theorem Inn.congr {s : ByteArray} {W1 W : World} {n b4 T : Nat} {f f' : Nat → Nat} (h : Inn s W1 n b4 T f W) (e : ∀ i, i < 256 → f i = f' i) : Inn s W1 n b4 T f' W :=
  ⟨h.row.congr e, h.bel, h.dd, h.sz, h.t0, h.t1⟩
theorem pick (m : Nat) (h : m < 12) : ∃ c : Nat, (∀ h', ((⟨#[48, 49, 50, 51, 52, 53, 54, 55, 56, 57, 45, 95]⟩ : ByteArray)[m]'h').toNat = c) ∧ c < 256 ∧ uu m c = 1 ∧ ∀ i, i < 256 → upd (uu m) c 3 i = uu (m + 1) i := by
  rcases (show m = 0 ∨ m = 1 ∨ m = 2 ∨ m = 3 ∨ m = 4 ∨ m = 5 ∨ m = 6 ∨ m = 7 ∨ m = 8 ∨ m = 9 ∨ m = 10 ∨ m = 11 by omega) with rfl | rfl | rfl | rfl | rfl | rfl | rfl | rfl | rfl | rfl | rfl | rfl
  · exact ⟨48, fun _ => rfl, by omega, uu_q0, uu_s0⟩
  · exact ⟨49, fun _ => rfl, by omega, uu_q1, uu_s1⟩
  · exact ⟨50, fun _ => rfl, by omega, uu_q2, uu_s2⟩
  · exact ⟨51, fun _ => rfl, by omega, uu_q3, uu_s3⟩
  · exact ⟨52, fun _ => rfl, by omega, uu_q4, uu_s4⟩
  · exact ⟨53, fun _ => rfl, by omega, uu_q5, uu_s5⟩
  · exact ⟨54, fun _ => rfl, by omega, uu_q6, uu_s6⟩
  · exact ⟨55, fun _ => rfl, by omega, uu_q7, uu_s7⟩
  · exact ⟨56, fun _ => rfl, by omega, uu_q8, uu_s8⟩
  · exact ⟨57, fun _ => rfl, by omega, uu_q9, uu_s9⟩
  · exact ⟨45, fun _ => rfl, by omega, uu_q10, uu_s10⟩
  · exact ⟨95, fun _ => rfl, by omega, uu_q11, uu_s11⟩

end Go.Proofs.Ybulkdjs
