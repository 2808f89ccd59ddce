import Derived.Test.YbulkdgmY
namespace Go.Proofs.Ybulkdgm
open Go.RowKit
set_option linter.unusedVariables false
attribute [local go_sem] run_store_float run_fadd run_fsub run_fmul run_fquo

/-- The model's cells (but for its Spec). -/
structure Mod (W : World) (B : Nat) (samples window : Int) (mean var mu sig : Nat) (coef : Value) : Prop where
  c2 : W.cell? ⟨B, 2, none⟩ = some (.int .i64 samples)
  c3 : W.cell? ⟨B, 3, none⟩ = some (.float .f64 mean)
  c4 : W.cell? ⟨B, 4, none⟩ = some (.float .f64 var)
  c5 : W.cell? ⟨B, 5, none⟩ = some (.int .i64 window)
  c6 : W.cell? ⟨B, 6, none⟩ = some (.float .f64 mu)
  c7 : W.cell? ⟨B, 7, none⟩ = some coef
  c8 : W.cell? ⟨B, 8, none⟩ = some (.float .f64 sig)
  free : ∀ o : Nat, W.frozen? ⟨B, o, none⟩ = false

theorem oth {W : World} {B i j : Nat} {v : Value} (h : i ≠ j) : (W.setCell ⟨B, i, none⟩ v).cell? ⟨B, j, none⟩ = W.cell? ⟨B, j, none⟩ :=
  World.cell?_setCell_other _ _ _ _ (by intro e; injection e with _ e; exact h e)
theorem Mod.setMu {W : World} {B : Nat} {samples window : Int} {mean var mu sig : Nat} {coef : Value} (h : Mod W B samples window mean var mu sig coef) (v : Nat) : Mod (W.setCell ⟨B, 6, none⟩ (.float .f64 v)) B samples window mean var v sig coef :=
  ⟨(oth (by decide)).trans h.c2, (oth (by decide)).trans h.c3, (oth (by decide)).trans h.c4, (oth (by decide)).trans h.c5, World.cell?_setCell_same' _ _ _ (by rw [h.c6]; rfl), (oth (by decide)).trans h.c7, (oth (by decide)).trans h.c8, fun o => by rw [World.frozen?_setCell]; exact h.free o⟩
theorem Mod.setCoef {W : World} {B : Nat} {samples window : Int} {mean var mu sig : Nat} {coef : Value} (h : Mod W B samples window mean var mu sig coef) (v : Value) : Mod (W.setCell ⟨B, 7, none⟩ v) B samples window mean var mu sig v :=
  ⟨(oth (by decide)).trans h.c2, (oth (by decide)).trans h.c3, (oth (by decide)).trans h.c4, (oth (by decide)).trans h.c5, (oth (by decide)).trans h.c6, World.cell?_setCell_same' _ _ _ (by rw [h.c7]; rfl), (oth (by decide)).trans h.c8, fun o => by rw [World.frozen?_setCell]; exact h.free o⟩
theorem Mod.setSig {W : World} {B : Nat} {samples window : Int} {mean var mu sig : Nat} {coef : Value} (h : Mod W B samples window mean var mu sig coef) (v : Nat) : Mod (W.setCell ⟨B, 8, none⟩ (.float .f64 v)) B samples window mean var mu v coef :=
  ⟨(oth (by decide)).trans h.c2, (oth (by decide)).trans h.c3, (oth (by decide)).trans h.c4, (oth (by decide)).trans h.c5, (oth (by decide)).trans h.c6, (oth (by decide)).trans h.c7, World.cell?_setCell_same' _ _ _ (by rw [h.c8]; rfl), fun o => by rw [World.frozen?_setCell]; exact h.free o⟩
theorem Mod.other {W : World} {B g i : Nat} {samples window : Int} {mean var mu sig : Nat} {coef : Value} (h : Mod W B samples window mean var mu sig coef) (v : Value) (hg : g ≠ B) : Mod (W.setCell ⟨g, i, none⟩ v) B samples window mean var mu sig coef := by
  have e : ∀ j, (W.setCell ⟨g, i, none⟩ v).cell? ⟨B, j, none⟩ = W.cell? ⟨B, j, none⟩ := fun j => World.cell?_setCell_other _ _ _ _ (by intro e; injection e with e _; exact hg e)
  exact ⟨(e _).trans h.c2, (e _).trans h.c3, (e _).trans h.c4, (e _).trans h.c5, (e _).trans h.c6, (e _).trans h.c7, (e _).trans h.c8, fun o => by rw [World.frozen?_setCell]; exact h.free o⟩
theorem Mod.drewN {W : World} {B : Nat} {samples window : Int} {mean var mu sig : Nat} {coef : Value} (h : Mod W B samples window mean var mu sig coef) (q : Nat) : Mod (W.drewN q) B samples window mean var mu sig coef :=
  ⟨h.c2, h.c3, h.c4, h.c5, h.c6, h.c7, h.c8, h.free⟩
theorem Mod.below {W W' : World} {B n : Nat} {samples window : Int} {mean var mu sig : Nat} {coef : Value} (h : Mod W B samples window mean var mu sig coef) (hb : Below n W W') (hg : B < n) : Mod W' B samples window mean var mu sig coef := by
  have e : ∀ j, W'.cell? ⟨B, j, none⟩ = W.cell? ⟨B, j, none⟩ := fun j => hb.cell (p := ⟨B, j, none⟩) hg
  exact ⟨(e _).trans h.c2, (e _).trans h.c3, (e _).trans h.c4, (e _).trans h.c5, (e _).trans h.c6, (e _).trans h.c7, (e _).trans h.c8, fun o => (hb.frozen (p := ⟨B, o, none⟩) hg).trans (h.free o)⟩

/-- Of the blocks that lay in w all but B lie in W as they lay. -/
structure Kept (w : World) (B : Nat) (W : World) : Prop where
  size : w.heap.size ≤ W.heap.size
  block : ∀ b : Nat, b < w.heap.size → b ≠ B → W.heap[b]? = w.heap[b]?
  low : Below B w W
theorem Kept.refl (w : World) (B : Nat) : Kept w B w := ⟨Nat.le_refl _, fun _ _ _ => rfl, Below.refl _ _⟩
theorem Kept.set {w W : World} {B : Nat} (h : Kept w B W) (i : Nat) (v : Value) : Kept w B (W.setCell ⟨B, i, none⟩ v) :=
  ⟨by simpa [World.setCell] using h.size, fun b hb hne => (Below.heap_setCell W ⟨B, i, none⟩ v b hne).trans (h.block b hb hne), h.low.setCell (p := ⟨B, i, none⟩) (Nat.le_refl _) v⟩
theorem Kept.new {w W : World} {B : Nat} (h : Kept w B W) (g i : Nat) (v : Value) (hg : w.heap.size ≤ g) (hB : B ≤ w.heap.size) : Kept w B (W.setCell ⟨g, i, none⟩ v) :=
  ⟨by simpa [World.setCell] using h.size, fun b hb hne => (Below.heap_setCell W ⟨g, i, none⟩ v b (by show b ≠ g; omega)).trans (h.block b hb hne), h.low.setCell (p := ⟨g, i, none⟩) (by show B ≤ g; omega) v⟩
theorem Kept.alloc {w W : World} {B : Nat} (h : Kept w B W) (hB : B ≤ w.heap.size) (o : Obj) : Kept w B (W.alloc o) :=
  ⟨by simp; have := h.size; omega, fun b hb hne => (Below.heap_alloc W o b (by have := h.size; omega)).trans (h.block b hb hne), h.low.alloc (by have := h.size; omega) o⟩
theorem Kept.drewN {w W : World} {B : Nat} (h : Kept w B W) (q : Nat) : Kept w B (W.drewN q) := ⟨h.size, h.block, below_drewN h.low q⟩
theorem Kept.below {w W W' : World} {B : Nat} (h : Kept w B W) (hb : Below W.heap.size W W') (hB : B ≤ w.heap.size) : Kept w B W' :=
  ⟨Nat.le_trans h.size hb.size, fun b hb' hne => (hb.block b (by have := h.size; omega)).trans (h.block b hb' hne), h.low.trans (hb.mono (by have := h.size; omega))⟩
theorem Kept.row {w W : World} {B g n : Nat} {f : Nat → Nat} (h : Kept w B W) (hr : RowF w g n f) (hg : g < w.heap.size) (hne : g ≠ B) : RowF W g n f :=
  ⟨fun i hi => (World.cell?_of_block (h.block g hg hne)).trans (hr.cell i hi), fun i hi => (World.frozen?_of_block (h.block g hg hne)).trans (hr.free i hi)⟩

/-- a 0 less the first j products. -/
def sg (a f : Nat → Nat) : Nat → Nat
  | 0 => a 0
  | j + 1 => fop .sub (sg a f j) (fop .mul (f j) (a (j + 1)))

theorem upd_sim {cf a : Nat → Nat} {k v : Nat} (h : ∀ j, j < k → Sim (cf j) (a j)) (hv : Sim v (a k)) : ∀ j, j < k + 1 → Sim (upd cf k v j) (a j) := fun j hj => by
  unfold upd
  by_cases e : j = k
  · subst e; simpa using hv
  · rw [if_neg e]; exact h j (by omega)

set_option maxRecDepth 100000 in
set_option maxHeartbeats 2000000 in
theorem fit_any (z : Nat → Nat) (B gz n p : Nat) (samples window : Int) (mean var mu sig : Nat) (coef : Value) (hn : n ≤ 1024) (hp : p ≤ 255) (w : World)
    (hv : (FloatKind.f64.format.order var 0 == some .eq) = false) (hM : Mod w B samples window mean var mu sig coef) (hz : RowF w gz n z) (hB : B < w.heap.size) (hgz : gz < w.heap.size) (hne : gz ≠ B) :
    Calls Yba.prog 6 #[.pointer (some ⟨B, 0, none⟩), .slice (some ⟨gz, 0, none⟩) n n, .int .i64 p] w fun e w' => e = .returned (.tuple #[]) ∧ ∃ (g sv : Nat) (f : Nat → Nat), Mod w' B samples window mean var mean sv (.slice (some ⟨g, 0, none⟩) p p) ∧ w.heap.size ≤ g ∧ RowF w' g p f ∧
      Sim sv (sg (acov z mean n) f p) ∧ (p = 1 → Sim (f 0) (fop .quo (acov z mean n 1) (acov z mean n 0))) ∧ Kept w B w' := by
  have hmp := make_n (p + 1) (by omega)
  have ec : ((p + 1 : Nat) : Int) = (p : Int) + 1 := by omega
  rw [ec] at hmp
  have c3 := hM.c3
  have c4 := hM.c4
  have c6 := hM.c6
  have ff := hM.free
  have HM := hid hM
  have HZ := hid hz
  clear hM hz ec
  go_enter Yba.func6, Yba.ntmps6
  go_wp2
  obtain ⟨W1, hW1⟩ : ∃ W1, (w.setCell ⟨B, 6, none⟩ (.float .f64 mean)).alloc (.cells (zf (p + 1)) 23) = W1 := ⟨_, rfl⟩
  rw [hW1]
  have K1 : Kept w B W1 := by rw [← hW1]; exact ((Kept.refl w B).set 6 _).alloc (by omega) _
  have M1 : Mod W1 B samples window mean var mean sig coef := by
    rw [← hW1]
    exact (HM.out.setMu mean).below ((Below.refl _ _).alloc (Nat.le_refl _) _) (by simpa [World.setCell] using hB)
  have R1 : RowF W1 w.heap.size (p + 1) (fun _ => 0) := by
    have := RowF.new (w.setCell ⟨B, 6, none⟩ (.float .f64 mean)) (p + 1)
    rw [hW1] at this
    simpa [World.setCell] using this
  have HK1 := hid K1
  have HM1 := hid M1
  have HR1 := hid R1
  clear K1 M1 R1 hW1 hmp c3 c4 c6 ff hv
  go_loopw [32] (fun i wr => ∃ (k : Nat) (cf : Nat → Nat), k ≤ p + 1 ∧ i = .int .i64 k ∧ RowF wr w.heap.size (p + 1) cf ∧ (∀ j, j < k → Sim (cf j) (acov z mean n j)) ∧ Mod wr B samples window mean var mean sig coef ∧ Kept w B wr) (fun i _ => p + 1 - (intOf i).toNat)
  case atStart => exact ⟨0, _, by omega, rfl, HR1.out, fun j hj => by omega, HM1.out, HK1.out⟩
  case round =>
    obtain ⟨k, cf, hk, rfl, hR, hS, hM, hK⟩ := hrel
    have HR := hid hR
    have HS := hid hS
    have HM' := hid hM
    have HK := hid hK
    by_cases hlt : k < p + 1
    · have c3 := hM.c3
      have r1 := hR.cell k hlt
      have r2 := hR.free k hlt
      have rz := (hK.row HZ.out hgz hne).cell
      have RZ := hid rz
      clear hR hS hM hK rz
      go_wp2_with fail
      refine (acov_any z gz mean n k hn (by omega) _ RZ.out).mono ?_
      rintro e w1 ⟨v, q, rfl, hs, rfl⟩
      have HV := hid hs
      clear hs
      go_wp2
      go_roundw
      case rel => exact ⟨k + 1, _, by omega, by go_num, (HR.out.drewN q).store k v hlt, upd_sim HS.out HV.out, (HM'.out.drewN q).other _ (by omega), (HK.out.drewN q).new _ _ _ (Nat.le_refl _) (by omega)⟩
      case measure => simp [intOf]; omega
    · obtain rfl : k = p + 1 := by omega
      have hsz := hK.size
      clear hR hS hM hK
      go_wp2_with fail
      refine (yule_any cf w.heap.size p hp wr HR.out (by have := World.block_lt_of_cell? wr _ (HR.out.cell 0 (by omega)); exact this)).mono ?_
      rintro e w2 ⟨g, f, rfl, hgg, hrow, h1, hb⟩
      have hlw : w.heap.size < wr.heap.size := World.block_lt_of_cell? wr _ (HR.out.cell 0 (by omega))
      have M2 := HM'.out.below hb (by omega)
      have R2 := HR.out.below hb hlw
      have K2 := HK.out.below hb (by omega)
      have m7 := M2.c7
      have m8 := M2.c8
      have mf := M2.free
      have r0 := R2.cell 0 (by omega)
      have HM2 := hid M2
      have HR2 := hid R2
      have HK2 := hid K2
      have HROW := hid hrow
      have H1 := hid h1
      clear M2 R2 K2 hrow h1 hb
      have hBw : B ≠ w.heap.size := by omega
      have hBg : B ≠ g := by omega
      have hgg' : w.heap.size ≤ g := by omega
      go_wp2
      have HM3 := hid ((HM2.out.setCoef (.slice (some ⟨g, 0, none⟩) p p)).setSig (cf 0))
      have HR3 := hid ((HR2.out.other (i := 7) (.slice (some ⟨g, 0, none⟩) p p) hBw).other (i := 8) (.float .f64 (cf 0)) hBw)
      have HO3 := hid ((HROW.out.other (i := 7) (.slice (some ⟨g, 0, none⟩) p p) hBg).other (i := 8) (.float .f64 (cf 0)) hBg)
      have HK3 := hid ((HK2.out.set 7 (.slice (some ⟨g, 0, none⟩) p p)).set 8 (.float .f64 (cf 0)))
      clear m7 m8 mf r0
      go_loopw [62] (fun i wr' => ∃ (j sv : Nat), j ≤ p ∧ i = .int .i64 j ∧ Mod wr' B samples window mean var mean sv (.slice (some ⟨g, 0, none⟩) p p) ∧ RowF wr' w.heap.size (p + 1) cf ∧ RowF wr' g p f ∧ Sim sv (sg (acov z mean n) f j) ∧ Kept w B wr') (fun i _ => p - (intOf i).toNat)
      case atStart => exact ⟨0, _, by omega, rfl, HM3.out, HR3.out, HO3.out, HS.out 0 (by omega), HK3.out⟩
      case round =>
        obtain ⟨j, sv, hj, rfl, hM, hR, hO, hs, hK⟩ := hrel
        have HM4 := hid hM
        have HR4 := hid hR
        have HO4 := hid hO
        have HK4 := hid hK
        have HS4 := hid hs
        by_cases hjl : j < p
        · have m8 := hM.c8
          have mf := hM.free
          have o1 := hO.cell j hjl
          have r1 := hR.cell (j + 1) (by omega)
          have b1 : (0 : Int) ≤ (j : Int) + 1 := by omega
          have b2 : (j : Int) + 1 < (p : Int) + 1 := by omega
          clear hM hR hO hK hs
          go_wp2
          go_region
          all_goals go_wp2
          all_goals go_roundw
          all_goals first
            | exact ⟨j + 1, _, by omega, by go_num, (HM4.out.drewN _).setSig _, (HR4.out.drewN _).other _ hBw, (HO4.out.drewN _).other _ hBg, fres_op HS4.out (fres_op (Sim.refl _) (HS.out (j + 1) (by omega))), (HK4.out.drewN _).set _ _⟩
            | (simp [intOf]; omega)
        · obtain rfl : j = p := by omega
          clear hM hR hO hK hs
          go_wp2
          go_end0
          refine ⟨rfl, g, sv, f, HM4.out, hgg', HO4.out, HS4.out, fun e => (H1.out e).trans ((HS.out 1 (by omega)).fop (HS.out 0 (by omega))), HK4.out⟩
end Go.Proofs.Ybulkdgm
