import Derived.Test.YbulkdgmM
import Derived.Test.YbulkdgmI
namespace Go.Proofs.Ybulkdgm
open Go.RowKit
set_option linter.unusedVariables false
attribute [local go_sem] run_store_float run_fadd run_fsub run_fmul run_fquo

theorem mod_new (w : World) (samples window : Int) (mean var sig : Nat) (coef : Value) : Mod (w.alloc (.cells #[.int .i64 0, .int .i64 0, .int .i64 samples, .float .f64 mean, .float .f64 var, .int .i64 window, .float .f64 0, coef, .float .f64 sig] 28)) w.heap.size samples window mean var 0 sig coef :=
  ⟨cell_new w _ 28 2 _ rfl, cell_new w _ 28 3 _ rfl, cell_new w _ 28 4 _ rfl, cell_new w _ 28 5 _ rfl, cell_new w _ 28 6 _ rfl, cell_new w _ 28 7 _ rfl, cell_new w _ 28 8 _ rfl, fun o => frozen_new w _ 28 o⟩

theorem upd_eq {f : Nat → Nat} {a : Nat → Int} {k : Nat} (h : ∀ j, j < k → f j = ofI (a j)) : ∀ j, j < k + 1 → upd f k (floatOfInt .f64 (a k)) j = ofI (a j) := fun j hj => by
  unfold upd
  by_cases e : j = k
  · subst e; rw [if_pos rfl]; rfl
  · rw [if_neg e]; exact h j (by omega)

theorem isum_0 (a : Nat → Int) (mu : Int) (t : Nat) : isum a mu 0 (t + 1) = isum a mu 0 t + (a t - mu) * (a t - mu) := by
  simp only [isum, Nat.zero_add]
theorem isum_1 (a : Nat → Int) (mu : Int) (t : Nat) (h : t ≠ 0) : isum a mu 1 (t + 1 - 1) = isum a mu 1 (t - 1) + (a t - mu) * (a (t - 1) - mu) := by
  obtain ⟨s, rfl⟩ : ∃ s, t = s + 1 := ⟨t - 1, by omega⟩
  simp only [Nat.add_sub_cancel, isum, Nat.add_comm 1 s]

theorem fit_0 (z : Nat → Nat) (B gz n : Nat) (samples window : Int) (mean var mu sig : Nat) (coef : Value) (hn : n ≤ 1024) (w : World)
    (hv : (FloatKind.f64.format.order var 0 == some .eq) = false) (hM : Mod w B samples window mean var mu sig coef) (hz : RowF w gz n z) (hB : B < w.heap.size) (hgz : gz < w.heap.size) (hne : gz ≠ B) :
    Calls Yba.prog 6 #[.pointer (some ⟨B, 0, none⟩), .slice (some ⟨gz, 0, none⟩) n n, .int .i64 0] w fun e w' => e = .returned (.tuple #[]) ∧ ∃ (g sv : Nat) (f : Nat → Nat), Mod w' B samples window mean var mean sv (.slice (some ⟨g, 0, none⟩) 0 0) ∧ w.heap.size ≤ g ∧ RowF w' g 0 f ∧
      Sim sv (acov z mean n 0) ∧ True ∧ Kept w B w' :=
  (fit_any z B gz n 0 samples window mean var mu sig coef hn (by omega) w hv hM hz hB hgz hne).mono fun e w' ⟨h, g, sv, f, a, b, c, d, _, k⟩ => ⟨h, g, sv, f, a, b, c, d, trivial, k⟩
theorem fit_1 (z : Nat → Nat) (B gz n : Nat) (samples window : Int) (mean var mu sig : Nat) (coef : Value) (hn : n ≤ 1024) (w : World)
    (hv : (FloatKind.f64.format.order var 0 == some .eq) = false) (hM : Mod w B samples window mean var mu sig coef) (hz : RowF w gz n z) (hB : B < w.heap.size) (hgz : gz < w.heap.size) (hne : gz ≠ B) :
    Calls Yba.prog 6 #[.pointer (some ⟨B, 0, none⟩), .slice (some ⟨gz, 0, none⟩) n n, .int .i64 1] w fun e w' => e = .returned (.tuple #[]) ∧ ∃ (g sv : Nat) (f : Nat → Nat), Mod w' B samples window mean var mean sv (.slice (some ⟨g, 0, none⟩) 1 1) ∧ w.heap.size ≤ g ∧ RowF w' g 1 f ∧
      Sim sv (fop .sub (acov z mean n 0) (fop .mul (f 0) (acov z mean n 1))) ∧ Sim (f 0) (fop .quo (acov z mean n 1) (acov z mean n 0)) ∧ Kept w B w' :=
  (fit_any z B gz n 1 samples window mean var mu sig coef hn (by omega) w hv hM hz hB hgz hne).mono fun e w' ⟨h, g, sv, f, a, b, c, d, r, k⟩ => ⟨h, g, sv, f, a, b, c, d, r rfl, k⟩

theorem acov_0 {a : Nat → Int} {mean : Int} {f : Nat → Nat} {t : Nat} (ha : ∀ i, -128 ≤ a i ∧ a i ≤ 127) (hm : -128 ≤ mean ∧ mean ≤ 127) (hf : ∀ j, j < t → f j = ofI (a j)) (ht : t ≤ 1024) :
    acov f (floatOfInt .f64 mean) t 0 = fop .quo (floatOfInt .f64 (isum a mean 0 t)) (floatOfInt .f64 t) := by
  unfold acov
  have h1 := acs_congr f (fun i => ofI (a i)) (floatOfInt .f64 mean) 0 t hf t (by omega)
  have h2 := acs_int a mean 0 ha hm t ht
  rw [Nat.sub_zero, h1]
  exact congrArg (fun x => fop .quo x (floatOfInt .f64 t)) h2
theorem acov_1 {a : Nat → Int} {mean : Int} {f : Nat → Nat} {t : Nat} (ha : ∀ i, -128 ≤ a i ∧ a i ≤ 127) (hm : -128 ≤ mean ∧ mean ≤ 127) (hf : ∀ j, j < t → f j = ofI (a j)) (ht : t ≤ 1024) :
    acov f (floatOfInt .f64 mean) t 1 = fop .quo (floatOfInt .f64 (isum a mean 1 (t - 1))) (floatOfInt .f64 t) := by
  unfold acov
  have h1 : acs f (floatOfInt .f64 mean) 1 (t - 1) = acs (fun i => ofI (a i)) (floatOfInt .f64 mean) 1 (t - 1) := by
    by_cases h : t = 0
    · subst h; rfl
    · exact acs_congr f (fun i => ofI (a i)) (floatOfInt .f64 mean) 1 t hf (t - 1) (by omega)
  have h2 := acs_int a mean 1 ha hm (t - 1) (by omega)
  rw [h1]
  exact congrArg (fun x => fop .quo x (floatOfInt .f64 t)) h2

set_option maxRecDepth 100000 in
set_option maxHeartbeats 4000000 in
theorem order_head (b off len cap : Nat) (a : Nat → Int) (mean : Int) (var var' : Nat) (one : Bool) (hl : len ≤ 1024) (w : World)
    (ha : ∀ i, -128 ≤ a i ∧ a i ≤ 127) (hm1 : -128 ≤ mean) (hm2 : mean ≤ 127)
    (hc : ∀ i, i < len → w.cell? ⟨b, off + i, none⟩ = some (.int .i8 (a i)))
    (hv : ((FloatKind.f64.format.order var 0 == some .eq) = false ∧ var' = var) ∨ ((FloatKind.f64.format.order var 0 == some .eq) = true ∧ var' = 4607182418800017408)) :
    Calls Yba.prog 4 #[.slice (some ⟨b, off, none⟩) len cap, .int .i8 mean, .float .f64 var, .bool one] w fun e w' => e = .returned (.bool true) ∧ Below w.heap.size w w' := by
  have hmk := make_n len hl
  have hl1 : ¬ (1024 : Int) < (len : Int) := by omega
  have hv' : (FloatKind.f64.format.order var' 0 == some .eq) = false := by
    rcases hv with ⟨h, rfl⟩ | ⟨_, rfl⟩
    · exact h
    · kernel_rfl
  have HC := hid hc
  have HA := hid ha
  clear hc ha
  go_enter Yba.func4, Yba.ntmps4
  go_upto_if 27 with fail
  go_cut [2] (fun s W => s = .float .f64 var' ∧ w = W)
  case first =>
    rcases hv with ⟨h, rfl⟩ | ⟨h, rfl⟩
    all_goals rw [h]
    all_goals go_wp2
    all_goals go_meet
    all_goals exact ⟨rfl, rfl⟩
  case rest =>
    obtain ⟨rfl, hw⟩ := hcut
    subst hw
    clear hv
    go_wp2
    go_loopw [10] (fun i wr => ∃ (k : Nat) (f : Nat → Nat), k ≤ len ∧ i = .int .i64 k ∧ RowF wr w.heap.size len f ∧ (∀ j, j < k → f j = ofI (a j)) ∧ Below w.heap.size w wr ∧ w.heap.size < wr.heap.size) (fun i _ => len - (intOf i).toNat)
    case atStart => exact ⟨0, _, by omega, rfl, RowF.new w len, fun j hj => by omega, (Below.refl _ _).alloc (Nat.le_refl _) _, by simp⟩
    case round =>
      obtain ⟨k, f, hk, rfl, hR, hf, hB, hsz0⟩ := hrel
      have HSZ0 := hid hsz0
      clear hsz0
      have HR := hid hR
      have HF := hid hf
      have HB := hid hB
      by_cases hlt : k < len
      · have hbl : b < w.heap.size := World.block_lt_of_cell? w _ (HC.out k hlt)
        have c1 : wr.cell? ⟨b, off + k, none⟩ = some (.int .i8 (a k)) := (hB.cell (p := ⟨b, off + k, none⟩) hbl).trans (HC.out k hlt)
        have r1 := hR.cell k hlt
        have r2 := hR.free k hlt
        have a1 := (HA.out k).1
        have a2 := (HA.out k).2
        clear hR hf hB
        go_wp2
        go_roundw
        case rel => exact ⟨k + 1, _, by omega, by go_num, HR.out.store k _ hlt, upd_eq HF.out, HB.out.setCell (p := ⟨w.heap.size, k, none⟩) (Nat.le_refl _) _, by have := HSZ0.out; simpa [World.setCell] using this⟩
        case measure => simp [intOf]; omega
      · have HSZ := hid HSZ0.out
        clear hR hf hB
        obtain rfl : k = len := by omega
        go_wp2
        go_loop [12, 13, 14, 15] (fun s0 s1 i d => ∃ t : Nat, t ≤ k ∧ i = .int .i64 t ∧ s0 = .int .i64 (isum a mean 0 t) ∧ s1 = .int .i64 (isum a mean 1 (t - 1))) (fun _ _ i _ => k - (intOf i).toNat)
        case atStart => exact ⟨0, by omega, rfl, rfl, rfl⟩
        case round =>
          obtain ⟨t, ht, rfl, rfl, rfl⟩ := hrel
          by_cases htl : t < k
          · have hbl : b < w.heap.size := World.block_lt_of_cell? w _ (HC.out t htl)
            have c1 : wr.cell? ⟨b, off + t, none⟩ = some (.int .i8 (a t)) := (HB.out.cell (p := ⟨b, off + t, none⟩) hbl).trans (HC.out t htl)
            have a1 := (HA.out t).1
            have a2 := (HA.out t).2
            obtain ⟨p1, p2⟩ := mul_bd (a t - mean) (a t - mean) (by omega) (by omega)
            have S0 := isum_bd a mean 0 HA.out ⟨hm1, hm2⟩ t
            by_cases h0 : t = 0
            · have g1 : ¬ (1 : Int) ≤ (t : Int) := by omega
              have H0 := hid h0
              clear h0
              go_wp2
              go_round
              case rel => exact ⟨t + 1, by omega, by go_num, congrArg _ (isum_0 a mean t).symm, congrArg _ (by rw [H0.out])⟩
              case measure => simp [intOf]; omega
            · have g1 : (1 : Int) ≤ (t : Int) := by omega
              have c2 : wr.cell? ⟨b, off + (t - 1), none⟩ = some (.int .i8 (a (t - 1))) := (HB.out.cell (p := ⟨b, off + (t - 1), none⟩) hbl).trans (HC.out (t - 1) (by omega))
              have a3 := (HA.out (t - 1)).1
              have a4 := (HA.out (t - 1)).2
              obtain ⟨p3, p4⟩ := mul_bd (a t - mean) (a (t - 1) - mean) (by omega) (by omega)
              have S1 := isum_bd a mean 1 HA.out ⟨hm1, hm2⟩ (t - 1)
              go_wp2
              go_round
              case rel => exact ⟨t + 1, by omega, by go_num, congrArg _ (isum_0 a mean t).symm, congrArg _ (isum_1 a mean t h0).symm⟩
              case measure => simp [intOf]; omega
          · obtain rfl : t = k := by omega
            have hlt0 : w.heap.size ≤ wr.heap.size := HB.out.size
            have A0 := acov_0 (mean := mean) HA.out ⟨hm1, hm2⟩ HF.out hl
            have A1 := acov_1 (mean := mean) HA.out ⟨hm1, hm2⟩ HF.out hl
            have HA0 := hid A0
            have HA1 := hid A1
            have hord : FloatKind.f64.format.order (floatOfInt .f64 mean) (floatOfInt .f64 mean) = some .eq := order_self _ (nan_ofI mean (by omega))
            clear A0 A1
            cases one with
            | false =>
              go_wp2_with fail
              obtain ⟨D, hD⟩ : ∃ D, (fd .quo (floatOfInt .f64 (isum a mean 0 t)) (floatOfInt .f64 t) + fd .quo (floatOfInt .f64 (isum a mean 1 (t - 1))) (floatOfInt .f64 t)) = D := ⟨_, rfl⟩
              obtain ⟨C1, hC1⟩ : ∃ C1, fres .quo (floatOfInt .f64 (isum a mean 1 (t - 1))) (floatOfInt .f64 t) (wr.drewN (fd .quo (floatOfInt .f64 (isum a mean 0 t)) (floatOfInt .f64 t))) = C1 := ⟨_, rfl⟩
              obtain ⟨C0, hC0⟩ : ∃ C0, fres .quo (floatOfInt .f64 (isum a mean 0 t)) (floatOfInt .f64 t) wr = C0 := ⟨_, rfl⟩
              rw [hD, hC1, hC0]
              have sC0 : Sim C0 (acov f (floatOfInt .f64 mean) t 0) := by rw [← hC0, HA0.out]; exact fres_sim _ _ _ _
              have sC1 : Sim C1 (acov f (floatOfInt .f64 mean) t 1) := by rw [← hC1, HA1.out]; exact fres_sim _ _ _ _
              clear hD hC1 hC0
              obtain ⟨W1, hW1⟩ : ∃ W1, (wr.drewN D).alloc (.cells #[.int .i64 0, .int .i64 0, .int .i64 0, .float .f64 (floatOfInt .f64 mean), .float .f64 var', .int .i64 0, .float .f64 0, .slice none 0 0, .float .f64 4619567317775286272] 28) = W1 := ⟨_, rfl⟩
              rw [hW1]
              have M1 : Mod W1 wr.heap.size 0 0 (floatOfInt .f64 mean) var' 0 4619567317775286272 (.slice none 0 0) := by
                have := mod_new (wr.drewN D) 0 0 (floatOfInt .f64 mean) var' 4619567317775286272 (.slice none 0 0)
                rwa [hW1] at this
              have hlw : w.heap.size < wr.heap.size := HSZ.out
              have R1 : RowF W1 w.heap.size t f := by
                rw [← hW1]
                exact (HR.out.drewN D).alloc _ hlw
              have B1 : Below w.heap.size w W1 := by rw [← hW1]; exact (below_drewN HB.out D).alloc (by show w.heap.size ≤ wr.heap.size; omega) _
              have S1 : W1.heap.size = wr.heap.size + 1 := by rw [← hW1]; simp
              refine (fit_0 f wr.heap.size w.heap.size t 0 0 (floatOfInt .f64 mean) var' 0 4619567317775286272 (.slice none 0 0) hl W1 hv' M1 R1 (by omega) (by omega) (by omega)).mono ?_
              rintro e w2 ⟨rfl, g, sv, f2, hM, hg, hO, hs, h1, hK⟩
              have m6 := hM.c6
              have m7 := hM.c7
              have m8 := hM.c8
              have HB2 := hid (B1.trans (hK.low.mono (by omega)))
              have HS := hid hs
              have H1 := hid h1
              have H0 := hid sC0
              have H01 := hid sC1
              clear hM hO hs h1 hK M1 R1 B1 S1 hW1 sC0 sC1
              go_wp2_with fail
              refine (same_any sv C0 (HS.out.trans H0.out.symm) _).mono ?_
              rintro e w4 ⟨rfl, rfl⟩
              go_wp2
              go_ret
              exact ⟨rfl, HB2.out⟩
            | true =>
              go_wp2_with fail
              obtain ⟨D, hD⟩ : ∃ D, (fd .quo (floatOfInt .f64 (isum a mean 0 t)) (floatOfInt .f64 t) + fd .quo (floatOfInt .f64 (isum a mean 1 (t - 1))) (floatOfInt .f64 t)) = D := ⟨_, rfl⟩
              obtain ⟨C1, hC1⟩ : ∃ C1, fres .quo (floatOfInt .f64 (isum a mean 1 (t - 1))) (floatOfInt .f64 t) (wr.drewN (fd .quo (floatOfInt .f64 (isum a mean 0 t)) (floatOfInt .f64 t))) = C1 := ⟨_, rfl⟩
              obtain ⟨C0, hC0⟩ : ∃ C0, fres .quo (floatOfInt .f64 (isum a mean 0 t)) (floatOfInt .f64 t) wr = C0 := ⟨_, rfl⟩
              rw [hD, hC1, hC0]
              have sC0 : Sim C0 (acov f (floatOfInt .f64 mean) t 0) := by rw [← hC0, HA0.out]; exact fres_sim _ _ _ _
              have sC1 : Sim C1 (acov f (floatOfInt .f64 mean) t 1) := by rw [← hC1, HA1.out]; exact fres_sim _ _ _ _
              clear hD hC1 hC0
              obtain ⟨W1, hW1⟩ : ∃ W1, (wr.drewN D).alloc (.cells #[.int .i64 0, .int .i64 0, .int .i64 0, .float .f64 (floatOfInt .f64 mean), .float .f64 var', .int .i64 0, .float .f64 0, .slice none 0 0, .float .f64 4619567317775286272] 28) = W1 := ⟨_, rfl⟩
              rw [hW1]
              have M1 : Mod W1 wr.heap.size 0 0 (floatOfInt .f64 mean) var' 0 4619567317775286272 (.slice none 0 0) := by
                have := mod_new (wr.drewN D) 0 0 (floatOfInt .f64 mean) var' 4619567317775286272 (.slice none 0 0)
                rwa [hW1] at this
              have hlw : w.heap.size < wr.heap.size := HSZ.out
              have R1 : RowF W1 w.heap.size t f := by
                rw [← hW1]
                exact (HR.out.drewN D).alloc _ hlw
              have B1 : Below w.heap.size w W1 := by rw [← hW1]; exact (below_drewN HB.out D).alloc (by show w.heap.size ≤ wr.heap.size; omega) _
              have S1 : W1.heap.size = wr.heap.size + 1 := by rw [← hW1]; simp
              refine (fit_1 f wr.heap.size w.heap.size t 0 0 (floatOfInt .f64 mean) var' 0 4619567317775286272 (.slice none 0 0) hl W1 hv' M1 R1 (by omega) (by omega) (by omega)).mono ?_
              rintro e w2 ⟨rfl, g, sv, f2, hM, hg, hO, hs, h1, hK⟩
              have m6 := hM.c6
              have m7 := hM.c7
              have m8 := hM.c8
              have HB2 := hid (B1.trans (hK.low.mono (by omega)))
              have HS := hid hs
              have H1 := hid h1
              have H0 := hid sC0
              have H01 := hid sC1
              have o0 := hO.cell 0 (by omega)
              clear hM hO hs h1 hK M1 R1 B1 S1 hW1 sC0 sC1
              go_wp2_with fail
              refine (same_any (f2 0) _ (H1.out.trans (fres_op H01.out H0.out).symm) _).mono ?_
              rintro e w4 ⟨rfl, rfl⟩
              go_wp2_with fail
              refine (same_any sv _ (HS.out.trans (Sim.trans ((Sim.refl _).fop (H1.out.fop (Sim.refl _))) (fres_op H0.out (fres_op (fres_op H01.out H0.out) H01.out)).symm)) _).mono ?_
              rintro e w5 ⟨rfl, rfl⟩
              go_wp2
              go_ret
              exact ⟨rfl, by repeat (first | exact HB2.out | refine below_drewN ?_ _)⟩
set_option maxRecDepth 100000 in
set_option maxHeartbeats 4000000 in
theorem order_nil (a0 : Option Addr) (len cap : Nat) (hz0 : len = 0) (a : Nat → Int) (mean : Int) (var var' : Nat) (one : Bool) (hl : len ≤ 1024) (w : World)
    (ha : ∀ i, -128 ≤ a i ∧ a i ≤ 127) (hm1 : -128 ≤ mean) (hm2 : mean ≤ 127)
    (hv : ((FloatKind.f64.format.order var 0 == some .eq) = false ∧ var' = var) ∨ ((FloatKind.f64.format.order var 0 == some .eq) = true ∧ var' = 4607182418800017408)) :
    Calls Yba.prog 4 #[.slice a0 len cap, .int .i8 mean, .float .f64 var, .bool one] w fun e w' => e = .returned (.bool true) ∧ Below w.heap.size w w' := by
  have hmk := make_n len hl
  have hl1 : ¬ (1024 : Int) < (len : Int) := by omega
  have hv' : (FloatKind.f64.format.order var' 0 == some .eq) = false := by
    rcases hv with ⟨h, rfl⟩ | ⟨_, rfl⟩
    · exact h
    · kernel_rfl
  have HZ := hid hz0
  have HA := hid ha
  clear hz0 ha
  go_enter Yba.func4, Yba.ntmps4
  go_upto_if 27 with fail
  go_cut [2] (fun s W => s = .float .f64 var' ∧ w = W)
  case first =>
    rcases hv with ⟨h, rfl⟩ | ⟨h, rfl⟩
    all_goals rw [h]
    all_goals go_wp2
    all_goals go_meet
    all_goals exact ⟨rfl, rfl⟩
  case rest =>
    obtain ⟨rfl, hw⟩ := hcut
    subst hw
    clear hv
    go_wp2
    go_loopw [10] (fun i wr => ∃ (k : Nat) (f : Nat → Nat), k ≤ len ∧ i = .int .i64 k ∧ RowF wr w.heap.size len f ∧ (∀ j, j < k → f j = ofI (a j)) ∧ Below w.heap.size w wr ∧ w.heap.size < wr.heap.size) (fun i _ => len - (intOf i).toNat)
    case atStart => exact ⟨0, _, by omega, rfl, RowF.new w len, fun j hj => by omega, (Below.refl _ _).alloc (Nat.le_refl _) _, by simp⟩
    case round =>
      obtain ⟨k, f, hk, rfl, hR, hf, hB, hsz0⟩ := hrel
      have HSZ0 := hid hsz0
      clear hsz0
      have HR := hid hR
      have HF := hid hf
      have HB := hid hB
      by_cases hlt : k < len
      · exact absurd hlt (by have := HZ.out; omega)
      · have HSZ := hid HSZ0.out
        clear hR hf hB
        obtain rfl : k = len := by omega
        go_wp2
        go_loop [12, 13, 14, 15] (fun s0 s1 i d => ∃ t : Nat, t ≤ k ∧ i = .int .i64 t ∧ s0 = .int .i64 (isum a mean 0 t) ∧ s1 = .int .i64 (isum a mean 1 (t - 1))) (fun _ _ i _ => k - (intOf i).toNat)
        case atStart => exact ⟨0, by omega, rfl, rfl, rfl⟩
        case round =>
          obtain ⟨t, ht, rfl, rfl, rfl⟩ := hrel
          by_cases htl : t < k
          · exact absurd htl (by have := HZ.out; omega)
          · obtain rfl : t = k := by omega
            have hlt0 : w.heap.size ≤ wr.heap.size := HB.out.size
            have A0 := acov_0 (mean := mean) HA.out ⟨hm1, hm2⟩ HF.out hl
            have A1 := acov_1 (mean := mean) HA.out ⟨hm1, hm2⟩ HF.out hl
            have HA0 := hid A0
            have HA1 := hid A1
            have hord : FloatKind.f64.format.order (floatOfInt .f64 mean) (floatOfInt .f64 mean) = some .eq := order_self _ (nan_ofI mean (by omega))
            clear A0 A1
            cases one with
            | false =>
              go_wp2_with fail
              obtain ⟨D, hD⟩ : ∃ D, (fd .quo (floatOfInt .f64 (isum a mean 0 t)) (floatOfInt .f64 t) + fd .quo (floatOfInt .f64 (isum a mean 1 (t - 1))) (floatOfInt .f64 t)) = D := ⟨_, rfl⟩
              obtain ⟨C1, hC1⟩ : ∃ C1, fres .quo (floatOfInt .f64 (isum a mean 1 (t - 1))) (floatOfInt .f64 t) (wr.drewN (fd .quo (floatOfInt .f64 (isum a mean 0 t)) (floatOfInt .f64 t))) = C1 := ⟨_, rfl⟩
              obtain ⟨C0, hC0⟩ : ∃ C0, fres .quo (floatOfInt .f64 (isum a mean 0 t)) (floatOfInt .f64 t) wr = C0 := ⟨_, rfl⟩
              rw [hD, hC1, hC0]
              have sC0 : Sim C0 (acov f (floatOfInt .f64 mean) t 0) := by rw [← hC0, HA0.out]; exact fres_sim _ _ _ _
              have sC1 : Sim C1 (acov f (floatOfInt .f64 mean) t 1) := by rw [← hC1, HA1.out]; exact fres_sim _ _ _ _
              clear hD hC1 hC0
              obtain ⟨W1, hW1⟩ : ∃ W1, (wr.drewN D).alloc (.cells #[.int .i64 0, .int .i64 0, .int .i64 0, .float .f64 (floatOfInt .f64 mean), .float .f64 var', .int .i64 0, .float .f64 0, .slice none 0 0, .float .f64 4619567317775286272] 28) = W1 := ⟨_, rfl⟩
              rw [hW1]
              have M1 : Mod W1 wr.heap.size 0 0 (floatOfInt .f64 mean) var' 0 4619567317775286272 (.slice none 0 0) := by
                have := mod_new (wr.drewN D) 0 0 (floatOfInt .f64 mean) var' 4619567317775286272 (.slice none 0 0)
                rwa [hW1] at this
              have hlw : w.heap.size < wr.heap.size := HSZ.out
              have R1 : RowF W1 w.heap.size t f := by
                rw [← hW1]
                exact (HR.out.drewN D).alloc _ hlw
              have B1 : Below w.heap.size w W1 := by rw [← hW1]; exact (below_drewN HB.out D).alloc (by show w.heap.size ≤ wr.heap.size; omega) _
              have S1 : W1.heap.size = wr.heap.size + 1 := by rw [← hW1]; simp
              refine (fit_0 f wr.heap.size w.heap.size t 0 0 (floatOfInt .f64 mean) var' 0 4619567317775286272 (.slice none 0 0) hl W1 hv' M1 R1 (by omega) (by omega) (by omega)).mono ?_
              rintro e w2 ⟨rfl, g, sv, f2, hM, hg, hO, hs, h1, hK⟩
              have m6 := hM.c6
              have m7 := hM.c7
              have m8 := hM.c8
              have HB2 := hid (B1.trans (hK.low.mono (by omega)))
              have HS := hid hs
              have H1 := hid h1
              have H0 := hid sC0
              have H01 := hid sC1
              clear hM hO hs h1 hK M1 R1 B1 S1 hW1 sC0 sC1
              go_wp2_with fail
              refine (same_any sv C0 (HS.out.trans H0.out.symm) _).mono ?_
              rintro e w4 ⟨rfl, rfl⟩
              go_wp2
              go_ret
              exact ⟨rfl, HB2.out⟩
            | true =>
              go_wp2_with fail
              obtain ⟨D, hD⟩ : ∃ D, (fd .quo (floatOfInt .f64 (isum a mean 0 t)) (floatOfInt .f64 t) + fd .quo (floatOfInt .f64 (isum a mean 1 (t - 1))) (floatOfInt .f64 t)) = D := ⟨_, rfl⟩
              obtain ⟨C1, hC1⟩ : ∃ C1, fres .quo (floatOfInt .f64 (isum a mean 1 (t - 1))) (floatOfInt .f64 t) (wr.drewN (fd .quo (floatOfInt .f64 (isum a mean 0 t)) (floatOfInt .f64 t))) = C1 := ⟨_, rfl⟩
              obtain ⟨C0, hC0⟩ : ∃ C0, fres .quo (floatOfInt .f64 (isum a mean 0 t)) (floatOfInt .f64 t) wr = C0 := ⟨_, rfl⟩
              rw [hD, hC1, hC0]
              have sC0 : Sim C0 (acov f (floatOfInt .f64 mean) t 0) := by rw [← hC0, HA0.out]; exact fres_sim _ _ _ _
              have sC1 : Sim C1 (acov f (floatOfInt .f64 mean) t 1) := by rw [← hC1, HA1.out]; exact fres_sim _ _ _ _
              clear hD hC1 hC0
              obtain ⟨W1, hW1⟩ : ∃ W1, (wr.drewN D).alloc (.cells #[.int .i64 0, .int .i64 0, .int .i64 0, .float .f64 (floatOfInt .f64 mean), .float .f64 var', .int .i64 0, .float .f64 0, .slice none 0 0, .float .f64 4619567317775286272] 28) = W1 := ⟨_, rfl⟩
              rw [hW1]
              have M1 : Mod W1 wr.heap.size 0 0 (floatOfInt .f64 mean) var' 0 4619567317775286272 (.slice none 0 0) := by
                have := mod_new (wr.drewN D) 0 0 (floatOfInt .f64 mean) var' 4619567317775286272 (.slice none 0 0)
                rwa [hW1] at this
              have hlw : w.heap.size < wr.heap.size := HSZ.out
              have R1 : RowF W1 w.heap.size t f := by
                rw [← hW1]
                exact (HR.out.drewN D).alloc _ hlw
              have B1 : Below w.heap.size w W1 := by rw [← hW1]; exact (below_drewN HB.out D).alloc (by show w.heap.size ≤ wr.heap.size; omega) _
              have S1 : W1.heap.size = wr.heap.size + 1 := by rw [← hW1]; simp
              refine (fit_1 f wr.heap.size w.heap.size t 0 0 (floatOfInt .f64 mean) var' 0 4619567317775286272 (.slice none 0 0) hl W1 hv' M1 R1 (by omega) (by omega) (by omega)).mono ?_
              rintro e w2 ⟨rfl, g, sv, f2, hM, hg, hO, hs, h1, hK⟩
              have m6 := hM.c6
              have m7 := hM.c7
              have m8 := hM.c8
              have HB2 := hid (B1.trans (hK.low.mono (by omega)))
              have HS := hid hs
              have H1 := hid h1
              have H0 := hid sC0
              have H01 := hid sC1
              have o0 := hO.cell 0 (by omega)
              clear hM hO hs h1 hK M1 R1 B1 S1 hW1 sC0 sC1
              go_wp2_with fail
              refine (same_any (f2 0) _ (H1.out.trans (fres_op H01.out H0.out).symm) _).mono ?_
              rintro e w4 ⟨rfl, rfl⟩
              go_wp2_with fail
              refine (same_any sv _ (HS.out.trans (Sim.trans ((Sim.refl _).fop (H1.out.fop (Sim.refl _))) (fres_op H0.out (fres_op (fres_op H01.out H0.out) H01.out)).symm)) _).mono ?_
              rintro e w5 ⟨rfl, rfl⟩
              go_wp2
              go_ret
              exact ⟨rfl, by repeat (first | exact HB2.out | refine below_drewN ?_ _)⟩

theorem order_great (a0 : Option Addr) (len cap : Nat) (mean : Int) (var : Nat) (one : Bool) (hl : 1024 < len) (hm : len ≤ 9223372036854775807) (w : World) :
    Calls Yba.prog 4 #[.slice a0 len cap, .int .i8 mean, .float .f64 var, .bool one] w fun e w' => e = .returned (.bool true) ∧ Below w.heap.size w w' := by
  have hl1 : (1024 : Int) < (len : Int) := by omega
  go_enter Yba.func4, Yba.ntmps4
  go_wp2
  go_ret
  exact ⟨rfl, Below.refl _ _⟩

theorem var_one (var : Nat) : ∃ var', ((FloatKind.f64.format.order var 0 == some .eq) = false ∧ var' = var) ∨ ((FloatKind.f64.format.order var 0 == some .eq) = true ∧ var' = 4607182418800017408) := by
  cases h : (FloatKind.f64.format.order var 0 == some .eq)
  · exact ⟨var, .inl ⟨rfl, rfl⟩⟩
  · exact ⟨_, .inr ⟨rfl, rfl⟩⟩

/-- What the walk is told of a slice of int8 that came in. -/
def IsRow (w : World) (a : Option Addr) (len cap : Nat) (zs : List Int) : Prop :=
  (a = none ∧ len = 0 ∧ cap = 0 ∧ zs = []) ∨
  ∃ x, a = some x ∧ len ≤ cap ∧ cap ≤ maxLen ∧ zs.length = cap ∧ (∀ i, i < zs.length → w.cell? (x.add i) = some (.int .i8 (zs.getD i 0))) ∧ ∀ n ∈ zs, -128 ≤ n ∧ n ≤ 127

theorem order_pre (a0 : Option Addr) (len cap : Nat) (zs : List Int) (mean : Int) (var : Nat) (one : Bool) (hm1 : -128 ≤ mean) (hm2 : mean ≤ 127) (w : World) (hz : IsRow w a0 len cap zs) :
    Calls Yba.prog 4 #[.slice a0 len cap, .int .i8 mean, .float .f64 var, .bool one] w fun e w' => e = .returned (.bool true) ∧ Below w.heap.size w w' := by
  obtain ⟨var', hv⟩ := var_one var
  rcases hz with ⟨rfl, rfl, rfl, rfl⟩ | ⟨x, rfl, hl, hm, hz, hc, hw⟩
  · exact order_nil none 0 0 rfl (fun _ => 0) mean var var' one (by omega) w (fun i => by omega) hm1 hm2 hv
  · by_cases h : len ≤ 1024
    · by_cases h0 : len = 0
      · exact order_nil (some x) len cap h0 (fun _ => 0) mean var var' one h w (fun i => by omega) hm1 hm2 hv
      · obtain ⟨b, off, spot⟩ := x
        have hc0 := hc 0 (by omega)
        have hspot : spot = none := by simpa [Addr.add] using World.cell?_spot hc0
        subst hspot
        refine order_head b off len cap (fun i => zs.getD i 0) mean var var' one h w (fun i => ?_) hm1 hm2 (fun i hi => ?_) hv
        · by_cases hi : i < zs.length
          · have := hw zs[i] (List.getElem_mem hi)
            simpa [List.getD, List.getElem?_eq_getElem hi] using this
          · simp [List.getD, List.getElem?_eq_none (Nat.le_of_not_lt hi)]
        · have e : (⟨b, off, none⟩ : Addr).add i = ⟨b, off + i, none⟩ := by unfold Addr.add; split <;> simp_all
          rw [← e]
          exact hc i (by omega)
    · exact order_great (some x) len cap mean var one (by omega) (by unfold maxLen at hm; omega) w
end Go.Proofs.Ybulkdgm
