import Derived.Test.YbulkdgmA
import Derived.Deep.DeepCutAuto
import Derived.Laws.IdiomCopy
namespace Go.Proofs.Ybulkdgm
open Go.RowKit
set_option linter.unusedVariables false
attribute [local go_sem] run_store_float run_fadd run_fsub run_fmul run_fquo

/-- The row of n floats at block g. -/
structure RowF (W : World) (g n : Nat) (f : Nat → Nat) : Prop where
  cell : ∀ i : Nat, i < n → W.cell? ⟨g, i, none⟩ = some (.float .f64 (f i))
  free : ∀ i : Nat, i < n → W.frozen? ⟨g, i, none⟩ = false

def upd (f : Nat → Nat) (i v : Nat) : Nat → Nat := fun j => if j = i then v else f j

theorem RowF.store {W : World} {g n : Nat} {f : Nat → Nat} (h : RowF W g n f) (i v : Nat) (hi : i < n) : RowF (W.setCell ⟨g, i, none⟩ (.float .f64 v)) g n (upd f i v) := by
  refine ⟨fun j hj => ?_, fun j hj => ?_⟩
  · by_cases e : j = i
    · subst e
      rw [World.cell?_setCell_same' _ _ _ (by rw [h.cell j hj]; rfl)]
      simp [upd]
    · rw [World.cell?_setCell_other _ _ _ _ (by intro x; injection x with _ x; exact e x.symm), h.cell j hj]
      simp [upd, e]
  · rw [World.frozen?_setCell]; exact h.free j hj
theorem RowF.other {W : World} {g n g' i : Nat} {f : Nat → Nat} (h : RowF W g n f) (v : Value) (hg : g' ≠ g) : RowF (W.setCell ⟨g', i, none⟩ v) g n f :=
  ⟨fun j hj => by rw [World.cell?_setCell_other _ _ _ _ (by intro x; injection x with x _; exact hg x)]; exact h.cell j hj, fun j hj => by rw [World.frozen?_setCell]; exact h.free j hj⟩
theorem RowF.drewN {W : World} {g n : Nat} {f : Nat → Nat} (h : RowF W g n f) (q : Nat) : RowF (W.drewN q) g n f := ⟨h.cell, h.free⟩
theorem RowF.below {W W' : World} {g n B : Nat} {f : Nat → Nat} (h : RowF W g n f) (hb : Below B W W') (hg : g < B) : RowF W' g n f :=
  ⟨fun j hj => (hb.cell (p := ⟨g, j, none⟩) hg).trans (h.cell j hj), fun j hj => (hb.frozen (p := ⟨g, j, none⟩) hg).trans (h.free j hj)⟩
theorem cell_new (w : World) (c : Array Value) (t : TypeId) (i : Nat) (v : Value) (h : c[i]? = some v) : (w.alloc (.cells c t)).cell? ⟨w.heap.size, i, none⟩ = some v := by
  have e : (w.alloc (.cells c t)).heap[w.heap.size]? = some (.cells c t) := (MapKept.heap_alloc w _).1
  unfold World.cell?
  simp only
  rw [e]
  exact h
theorem frozen_new (w : World) (c : Array Value) (t : TypeId) (o : Nat) : (w.alloc (.cells c t)).frozen? ⟨w.heap.size, o, none⟩ = false := by
  rw [frozen?_alloc_cells]
  unfold World.frozen?
  rw [Array.getElem?_eq_none (by simp)]
theorem RowF.new (w : World) (n : Nat) : RowF (w.alloc (.cells (zf n) 23)) w.heap.size n (fun _ => 0) :=
  ⟨fun i hi => cell_new w _ 23 i _ (zf_get n i hi), fun i hi => frozen_new w _ 23 i⟩
theorem RowF.alloc {W : World} {g n : Nat} {f : Nat → Nat} (h : RowF W g n f) (o : Obj) (hg : g < W.heap.size) : RowF (W.alloc o) g n f :=
  h.below ((Below.refl W.heap.size W).alloc (Nat.le_refl _) o) hg

theorem RowF.setCells {W : World} {g n : Nat} {f : Nat → Nat} (h : RowF W g n f) (m : Nat) (u : Nat → Nat) (hm : m ≤ n) :
    RowF (W.setCells g 0 ((List.range m).map fun i => .float .f64 (u i))) g n (fun j => if j < m then u j else f j) := by
  refine ⟨fun j hj => ?_, fun j hj => by rw [World.frozen?_setCells]; exact h.free j hj⟩
  by_cases e : j < m
  · have := World.cell?_setCells_in g ((List.range m).map fun i => Value.float .f64 (u i)) 0 W (fun i hi => by rw [Nat.zero_add, h.cell i (by simp at hi; omega)]; rfl) j (by simpa using e)
    rw [Nat.zero_add] at this
    rw [this]
    simp [e]
  · rw [World.cell?_setCells_out g _ 0 W _ (fun _ _ => .inr (by simp; omega)), h.cell j hj]
    simp [e]
theorem RowF.setCells_other {W : World} {g g' n : Nat} {f : Nat → Nat} (h : RowF W g n f) (vs : List Value) (hg : g ≠ g') : RowF (W.setCells g' 0 vs) g n f :=
  ⟨fun j hj => by rw [World.cell?_setCells_out g' vs 0 W _ (fun e _ => absurd e hg)]; exact h.cell j hj, fun j hj => by rw [World.frozen?_setCells]; exact h.free j hj⟩
theorem below_setCells {B : Nat} {w : World} (g : Nat) (hg : B ≤ g) : ∀ (vs : List Value) (o : Nat) (W : World), Below B w W → Below B w (W.setCells g o vs)
  | [], _, _, h => h
  | v :: r, o, W, h => below_setCells g hg r (o + 1) _ (h.setCell (p := ⟨g, o, none⟩) hg v)

theorem size23 : (Yba.prog.info? 23).map (·.size) = some 1 := by kernel_rfl
/-- 'copy(prev, phi[:m])'. -/
theorem copy_row {W : World} {gA gB n m : Nat} {f h : Nat → Nat} (hA : RowF W gA n f) (hB : RowF W gB n h) (hm : m ≤ n) :
    (Builtin.copy_ #[22, 22] 3 #[.slice (some ⟨gB, 0, none⟩) n n, .slice (some ⟨gA, 0, none⟩) m n]).run Yba.prog W = .ok (.int .i64 m) (W.setCells gB 0 ((List.range m).map fun i => .float .f64 (f i))) := by
  have := run_copy_cells (P := Yba.prog) W 22 22 3 23 gB 0 n n ⟨gA, 0, none⟩ m n ((List.range m).map fun i => .float .f64 (f i)) Yba.underlying22 size23 (by rw [List.length_map, List.length_range]; exact (Nat.min_eq_left hm).symm) ?_
    (fun j hj => by rw [Nat.zero_add, hB.cell j (by simp at hj; omega)]; rfl) (fun j hj => by rw [Nat.zero_add]; exact hB.free j (by simp at hj; omega)) (by intro v hv; simp at hv; obtain ⟨y, _, rfl⟩ := hv; rfl)
  · rw [this]; simp [goInt]
  · intro j v hj
    have hjl : j < m := by
      have := (List.getElem?_eq_some_iff.1 hj).1
      simpa using this
    have e : (⟨gA, 0, none⟩ : Addr).add j = ⟨gA, j, none⟩ := by unfold Addr.add; split <;> simp_all
    rw [e, hA.cell j (by omega)]
    simp [hjl] at hj
    rw [hj]

theorem upd_first {f' c : Nat → Nat} {j v ev : Nat} (w : World) (e : j + 1 = 2) (hv : j = 1 → v = c 1) (he : j = 1 → ev = c 0) : Sim (upd f' (j - 1) (fres .quo v ev w) 0) (fop .quo (c 1) (c 0)) := by
  obtain rfl : j = 1 := by omega
  rw [hv rfl, he rfl]
  exact fres_sim _ _ _ _

set_option maxRecDepth 100000 in
set_option maxHeartbeats 2000000 in
theorem yule_any (c : Nat → Nat) (gc p : Nat) (hp : p ≤ 255) (w : World) (hc : RowF w gc (p + 1) c) (hg : gc < w.heap.size) :
    Calls Yba.prog 11 #[.slice (some ⟨gc, 0, none⟩) (p + 1) (p + 1)] w fun e w' => ∃ (g : Nat) (f : Nat → Nat), e = .returned (.slice (some ⟨g, 0, none⟩) p p) ∧ w.heap.size ≤ g ∧ RowF w' g p f ∧ (p = 1 → Sim (f 0) (fop .quo (c 1) (c 0))) ∧ Below w.heap.size w w' := by
  have hmp := make_n p (by omega)
  have HC := hid hc
  clear hc
  go_enter Yba.func11, Yba.ntmps11
  go_wp2
  go_cut [4, 5] (fun a b W => ∃ gA gB : Nat, a = .slice (some ⟨gA, 0, none⟩) p p ∧ b = .slice (some ⟨gB, 0, none⟩) p p ∧ gA ≠ gB ∧ w.heap.size ≤ gA ∧ w.heap.size ≤ gB ∧ RowF W gA p (fun _ => 0) ∧ RowF W gB p (fun _ => 0) ∧ Below w.heap.size w W)
  case first =>
    go_region
    all_goals go_wp2
    all_goals go_meet
    all_goals have e1 := RowF.new (w.alloc (.cells (zf p) 23)) p
    all_goals have e0 := (RowF.new w p).alloc (.cells (zf p) 23) (by simp)
    all_goals rw [World.size_alloc] at e1
    all_goals have eb : Below w.heap.size w ((w.alloc (.cells (zf p) 23)).alloc (.cells (zf p) 23)).drew := (((Below.refl _ _).alloc (Nat.le_refl _) _).alloc (by simp) _).drew
    · exact ⟨w.heap.size, w.heap.size + 1, rfl, rfl, by omega, by omega, by omega, e0.drewN 1, e1.drewN 1, eb⟩
    · exact ⟨w.heap.size + 1, w.heap.size, rfl, rfl, by omega, by omega, by omega, e1.drewN 1, e0.drewN 1, eb⟩
  case rest =>
    obtain ⟨gA, gB, rfl, rfl, hne, hA0, hB0, hrA, hrB, hBl⟩ := hcut
    have c0 : wc.cell? ⟨gc, 0, none⟩ = some (.float .f64 (c 0)) := (hBl.cell (p := ⟨gc, 0, none⟩) hg).trans (HC.out.cell 0 (by omega))
    have HA := hid hrA
    have HB := hid hrB
    have HBl := hid hBl
    clear hrA hrB hBl hmp
    go_wp2
    go_loopw [6, 7] (fun e k wr => ∃ (kk ev : Nat) (f h : Nat → Nat), 1 ≤ kk ∧ kk ≤ p + 1 ∧ k = .int .i64 kk ∧ e = .float .f64 ev ∧ RowF wr gA p f ∧ RowF wr gB p h ∧ Below w.heap.size w wr ∧ (kk = 1 → ev = c 0) ∧ (kk = 2 → Sim (f 0) (fop .quo (c 1) (c 0)))) (fun _ k _ => p + 1 - (intOf k).toNat)
    case atStart => exact ⟨1, c 0, _, _, by omega, by omega, rfl, rfl, HA.out, HB.out, HBl.out, fun _ => rfl, fun h => by omega⟩
    case round =>
      obtain ⟨k, ev, f, h, hk1, hk, rfl, rfl, hA, hB, hBl, he1, hf2⟩ := hrel
      have HA1 := hid hA
      have HB1 := hid hB
      have HBl1 := hid hBl
      have HE := hid he1
      have HF := hid hf2
      clear hA hB hBl he1 hf2 c0
      by_cases hlt : k ≤ p
      · have ck : wr.cell? ⟨gc, k, none⟩ = some (.float .f64 (c k)) := (HBl1.out.cell (p := ⟨gc, k, none⟩) hg).trans (HC.out.cell k (by omega))
        go_wp2
        go_loopw [8, 9] (fun r j wr' => ∃ (jj v q : Nat), 1 ≤ jj ∧ jj ≤ k ∧ j = .int .i64 jj ∧ r = .float .f64 v ∧ (k = 1 → v = c 1) ∧ wr' = wr.drewN q) (fun _ j _ => k - (intOf j).toNat)
        case atStart => exact ⟨1, c k, 0, by omega, hk1, rfl, rfl, fun e => by rw [e], rfl⟩
        case round =>
          obtain ⟨j, v, q, hj1, hj, rfl, rfl, hv, rfl⟩ := hrel
          have HV := hid hv
          clear hv
          by_cases hjl : j < k
          · have c1 : wr.cell? ⟨gA, j - 1, none⟩ = some (.float .f64 (f (j - 1))) := HA1.out.cell (j - 1) (by omega)
            have c2 : wr.cell? ⟨gc, k - j, none⟩ = some (.float .f64 (c (k - j))) := (HBl1.out.cell (p := ⟨gc, k - j, none⟩) hg).trans (HC.out.cell (k - j) (by omega))
            have b1 : (0 : Int) ≤ (j : Int) - 1 := by omega
            have b2 : (j : Int) - 1 < p := by omega
            have b3 : (0 : Int) ≤ (k : Int) - j := by omega
            have b4 : (k : Int) - j < (p : Int) + 1 := by omega
            go_wp2
            go_region
            all_goals go_wp2
            all_goals go_roundw
            all_goals first
              | exact ⟨j + 1, _, _, by omega, by omega, by go_num, rfl, fun e => by omega, rfl⟩
              | (simp [intOf]; omega)
          · obtain rfl : j = k := by omega
            obtain ⟨L, hL⟩ : ∃ L, L = (List.range (j - 1)).map fun i => Value.float .f64 (f i) := ⟨_, rfl⟩
            have hcp : ∀ Q, (Builtin.copy_ #[22, 22] 3 #[.slice (some ⟨gB, 0, none⟩) p p, .slice (some ⟨gA, 0, none⟩) (j - 1) p]).run Yba.prog (wr.drewN Q) = .ok (.int .i64 ((j - 1 : Nat) : Int)) ((wr.drewN Q).setCells gB 0 L) := fun Q => by
              rw [hL]; exact copy_row (HA1.out.drewN Q) (HB1.out.drewN Q) (by omega)
            have HL := hid hL
            clear hL
            go_wp2
            have hA3 := ((HA1.out.drewN (q + fd .quo v ev)).setCells_other L hne)
            obtain ⟨h3, hB3⟩ : ∃ h3, RowF ((wr.drewN (q + fd .quo v ev)).setCells gB 0 L) gB p h3 := ⟨_, by rw [HL.out]; exact (HB1.out.drewN (q + fd .quo v ev)).setCells (j - 1) f (by omega)⟩
            have hBl3 : Below w.heap.size w ((wr.drewN (q + fd .quo v ev)).setCells gB 0 L) := below_setCells gB hB0 L 0 _ (below_drewN HBl1.out _)
            have HA3 := hid hA3
            have HB3 := hid hB3
            have HBl3 := hid hBl3
            clear hA3 hB3 hBl3 hcp ck
            go_loopw [11] (fun i wr' => ∃ (jj : Nat) (f' : Nat → Nat), 1 ≤ jj ∧ jj ≤ j ∧ i = .int .i64 jj ∧ RowF wr' gA p f' ∧ RowF wr' gB p h3 ∧ Below w.heap.size w wr') (fun i _ => j - (intOf i).toNat)
            case atStart => exact ⟨1, f, by omega, by omega, rfl, HA3.out, HB3.out, HBl3.out⟩
            case round =>
              obtain ⟨i, f', hi1, hi, rfl, hA4, hB4, hBl4⟩ := hrel
              by_cases hil : i < j
              · have c1 := hB4.cell (i - 1) (by omega)
                have c2 := hB4.cell (j - i - 1) (by omega)
                have c3 := hA4.cell (i - 1) (by omega)
                have c4 := hA4.free (i - 1) (by omega)
                have b1 : (0 : Int) ≤ (i : Int) - 1 := by omega
                have b2 : (i : Int) - 1 < p := by omega
                have b3 : (0 : Int) ≤ (j : Int) - i - 1 := by omega
                have b4 : (j : Int) - i - 1 < p := by omega
                have b5 : (0 : Int) ≤ (j : Int) - i := by omega
                have HA4 := hid hA4
                have HB4 := hid hB4
                have HBl4 := hid hBl4
                clear hA4 hB4 hBl4
                go_wp2
                go_region
                all_goals go_wp2
                all_goals go_roundw
                all_goals first
                  | exact ⟨i + 1, _, by omega, by omega, by go_num, (HA4.out.drewN _).store (i - 1) _ (by omega), (HB4.out.drewN _).other _ hne, (below_drewN HBl4.out _).setCell (p := ⟨gA, i - 1, none⟩) hA0 _⟩
                  | (simp [intOf]; omega)
              · have c3 := hA4.cell (j - 1) (by omega)
                have c4 := hA4.free (j - 1) (by omega)
                have b1 : (0 : Int) ≤ (j : Int) - 1 := by omega
                have b2 : (j : Int) - 1 < p := by omega
                have HA4 := hid hA4
                have HB4 := hid hB4
                have HBl4 := hid hBl4
                clear hA4 hB4 hBl4
                go_wp2
                go_roundw
                case rel => exact ⟨j + 1, _, _, _, by omega, by omega, by go_num, rfl, (HA4.out.store (j - 1) _ (by omega)).drewN _, (HB4.out.other _ hne).drewN _, below_drewN (HBl4.out.setCell (p := ⟨gA, j - 1, none⟩) hA0 _) _, fun e => by omega, fun e => upd_first _ e HV.out HE.out⟩
                case measure => simp [intOf]; omega
      · go_wp2
        go_ret
        obtain rfl : k = p + 1 := by omega
        exact ⟨gA, f, rfl, hA0, HA1.out, fun e => HF.out (by omega), HBl1.out⟩
end Go.Proofs.Ybulkdgm
