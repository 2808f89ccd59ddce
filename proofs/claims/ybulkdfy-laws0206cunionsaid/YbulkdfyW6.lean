import Derived.Test.YbulkdfyW4
import Derived.Deep.QuietTactic
import Derived.BigQuiet
namespace Go.Proofs.Ybulkdfy
open Go.RowKit
set_option linter.unusedVariables false

def sel (a b k : Nat) : Nat := if k = 0 then a else b
def wantK (l0 l1 h0 h1 i : Nat) : Nat → Nat
  | 0 => 0
  | k + 1 => wantK l0 l1 h0 h1 i k ||| M (sel l0 l1 k) (sel h0 h1 k) i
theorem wantK_lt (l0 l1 h0 h1 i : Nat) : ∀ k, wantK l0 l1 h0 h1 i k < 18446744073709551616
  | 0 => by simp [wantK]
  | k + 1 => Nat.or_lt_two_pow (n := 64) (wantK_lt l0 l1 h0 h1 i k) (M_lt _ _ _)

theorem wantK_none {l0 l1 h0 h1 i j V lo hi : Nat} (hV : V = wantK l0 l1 h0 h1 i j) (e1 : lo = sel l0 l1 j) (e2 : hi = sel h0 h1 j) (h : 64 * i + 63 < lo ∨ hi < 64 * i) : wantK l0 l1 h0 h1 i (j + 1) = V := by
  rw [wantK, ← hV, ← e1, ← e2, M_none _ _ _ h, Nat.or_zero]
theorem wantK_all {l0 l1 h0 h1 i j V lo hi : Nat} (bV : V < 18446744073709551616) (hV : V = wantK l0 l1 h0 h1 i j) (e1 : lo = sel l0 l1 j) (e2 : hi = sel h0 h1 j) (a : lo ≤ 64 * i) (b : 64 * i + 63 ≤ hi) : bits .or .u64 (V : Int) 18446744073709551615 = ((wantK l0 l1 h0 h1 i (j + 1) : Nat) : Int) := by
  rw [wantK, ← hV, ← e1, ← e2, M_all _ _ _ a b]
  exact (bitsE V 18446744073709551615 bV (by decide)).2

theorem bits_lt {V c : Nat} (f : Nat → Bool) (bV : V < 18446744073709551616) (hc : c ≤ 64) : V ||| mk f c < 18446744073709551616 :=
  Nat.or_lt_two_pow (n := 64) bV (Nat.lt_of_lt_of_le (mk_lt f c) (Nat.pow_le_pow_right (by decide) hc))
theorem bit_yes {V Y c : Nat} (f : Nat → Bool) (bY : Y < 18446744073709551616) (hc : c < 64) (hY : Y = V ||| mk f c) (h : f c = true) : bits .or .u64 (Y : Int) (IntKind.u64.wrap (2 ^ c)) = ((V ||| mk f (c + 1) : Nat) : Int) := by
  have h2 : 2 ^ c < 18446744073709551616 := Nat.pow_lt_pow_right (a := 2) (by decide) hc
  have e : IntKind.u64.wrap (2 ^ c) = ((2 ^ c : Nat) : Int) := by
    have := wrapE (2 ^ c)
    rw [Nat.mod_eq_of_lt h2] at this
    rw [← this]; simp
  rw [e, (bitsE Y (2 ^ c) bY h2).2, hY, mk, h]
  simp [Nat.or_assoc]
theorem bit_no {V Y c : Nat} (f : Nat → Bool) (hY : Y = V ||| mk f c) (h : f c = false) : V ||| mk f (c + 1) = Y := by
  rw [hY, mk, h]; simp

set_option maxRecDepth 100000 in
set_option maxHeartbeats 2000000 in
theorem check_any (g cnt l0 l1 h0 h1 : Nat) (ws : List Nat) (hcnt : cnt ≤ 2) (hl0 : l0 < 1000000) (hl1 : l1 < 1000000) (hh0 : h0 < 1000000) (hh1 : h1 < 1000000) (w : World)
    (hrow : ∀ i : Nat, i < 15625 → w.cell? ⟨g, i, none⟩ = some (.int .u64 ((ws[i]?.getD 0 : Nat) : Int))) (hw : ∀ i : Nat, i < 15625 → ws[i]?.getD 0 = wantK l0 l1 h0 h1 i cnt) (hg : g < w.heap.size) :
    Calls Yba.prog 7 #[.slice (some ⟨g, 0, none⟩) 15625 15625, .agg #[.int .i64 l0, .int .i64 l1], .agg #[.int .i64 h0, .int .i64 h1], .int .i64 cnt] w fun e w' => e = .returned (.bool true) ∧ Below w.heap.size w w' := by
  have HROW := hid hrow
  have HW := hid hw
  clear hrow hw
  go_enter Yba.func7, Yba.ntmps7
  go_wp2
  obtain ⟨W0, hW0⟩ : ∃ W0, (w.alloc (.cells #[.int .i64 l0, .int .i64 l1] 34)).alloc (.cells #[.int .i64 h0, .int .i64 h1] 34) = W0 := ⟨_, rfl⟩
  rw [hW0]
  have hsz : W0.heap.size = w.heap.size + 2 := by rw [← hW0]; simp
  have hB0 : Below w.heap.size w W0 := by rw [← hW0]; exact ((Below.refl _ _).alloc (Nat.le_refl _) _).alloc (by simp) _
  have cL : ∀ k, k < 2 → W0.cell? ⟨w.heap.size, k, none⟩ = some (.int .i64 (sel l0 l1 k : Nat)) := fun k hk => by
    rw [← hW0, cell_alloc_lt _ _ _ _ (by simp)]
    refine cell_new w _ 34 k _ ?_
    match k, hk with
    | 0, _ => rfl
    | 1, _ => rfl
  have cH : ∀ k, k < 2 → W0.cell? ⟨w.heap.size + 1, k, none⟩ = some (.int .i64 (sel h0 h1 k : Nat)) := fun k hk => by
    rw [← hW0]
    have := cell_new (w.alloc (.cells #[.int .i64 l0, .int .i64 l1] 34)) #[.int .i64 h0, .int .i64 h1] 34 k (.int .i64 (sel h0 h1 k : Nat)) (by
      match k, hk with
      | 0, _ => rfl
      | 1, _ => rfl)
    rwa [World.size_alloc] at this
  have HL := hid cL
  have HH := hid cH
  have HS := hid hsz
  have HB0 := hid hB0
  clear cL cH hsz hB0 hW0
  go_loopw [9] (fun i wr => ∃ k : Nat, k ≤ 15625 ∧ i = .int .i64 k ∧ Below W0.heap.size W0 wr) (fun i _ => 15625 - (intOf i).toNat)
  case atStart => exact ⟨0, by omega, rfl, Below.refl _ _⟩
  case round =>
    obtain ⟨i, hi, rfl, hBr⟩ := hrel
    by_cases hlt : i < 15625
    · go_wp2
      go_loopw [11, 12] (fun v k wr => ∃ j : Nat, j ≤ cnt ∧ k = .int .i64 j ∧ v = .int .u64 ((wantK l0 l1 h0 h1 i j : Nat) : Int) ∧ Below W0.heap.size W0 wr) (fun _ k _ => cnt - (intOf k).toNat)
      case atStart => exact ⟨0, by omega, rfl, rfl, hBr⟩
      case round =>
        obtain ⟨j, hj, rfl, rfl, hBr2⟩ := hrel
        by_cases hjl : j < cnt
        · have cl := (hBr2.cell (p := ⟨w.heap.size, j, none⟩) (by have := HS.out; show w.heap.size < _; omega)).trans (HL.out j (by omega))
          have ch := (hBr2.cell (p := ⟨w.heap.size + 1, j, none⟩) (by have := HS.out; show w.heap.size + 1 < _; omega)).trans (HH.out j (by omega))
          obtain ⟨lo, hlo⟩ : ∃ lo, lo = sel l0 l1 j := ⟨_, rfl⟩
          obtain ⟨hi, hhi⟩ : ∃ hi, hi = sel h0 h1 j := ⟨_, rfl⟩
          rw [← hlo] at cl
          rw [← hhi] at ch
          obtain ⟨V, hV⟩ : ∃ V, V = wantK l0 l1 h0 h1 i j := ⟨_, rfl⟩
          rw [← hV]
          have HV := hid hV
          have HLO := hid hlo
          have HHI := hid hhi
          have blo : lo < 1000000 := by rw [hlo]; unfold sel; split <;> omega
          have bhi : hi < 1000000 := by rw [hhi]; unfold sel; split <;> omega
          have bV : V < 18446744073709551616 := by rw [hV]; exact wantK_lt _ _ _ _ _ _
          clear hV hlo hhi
          have j0 : (0 : Int) ≤ (j : Int) := by omega
          have j2 : (j : Int) < 2 := by omega
          go_wp2
          go_quiet (fail)
          have hBr3 : Below W0.heap.size W0 (wr.drewN nq) := below_drewN hBr2 nq
          rcases (show (64 * i + 63 < lo) ∨ (lo ≤ 64 * i + 63 ∧ hi < 64 * i) ∨ (lo ≤ 64 * i ∧ 64 * i ≤ hi ∧ 64 * i + 63 ≤ hi) ∨ (64 * i < lo ∧ lo ≤ 64 * i + 63 ∧ 64 * i ≤ hi) ∨ (lo ≤ 64 * i ∧ 64 * i ≤ hi ∧ hi < 64 * i + 63) by omega) with t1 | ⟨t1, t2⟩ | ⟨t1, t2, t3⟩ | ⟨t1, t2, t3⟩ | ⟨t1, t2, t3⟩
          · have g1 : 64 * (i : Int) + 63 < lo := by omega
            go_wp2
            go_roundw
            case rel => exact ⟨j + 1, by omega, by go_num, congrArg _ (by rw [wantK_none HV.out HLO.out HHI.out (.inl t1)]), hBr3⟩
            case measure => simp [intOf]; omega
          · have g1 : ¬ 64 * (i : Int) + 63 < lo := by omega
            have g2 : (hi : Int) < 64 * i := by omega
            go_wp2
            go_roundw
            case rel => exact ⟨j + 1, by omega, by go_num, congrArg _ (by rw [wantK_none HV.out HLO.out HHI.out (.inr t2)]), hBr3⟩
            case measure => simp [intOf]; omega
          · have g1 : ¬ 64 * (i : Int) + 63 < lo := by omega
            have g2 : ¬ (hi : Int) < 64 * i := by omega
            have g3 : (lo : Int) ≤ 64 * i := by omega
            have g4 : 64 * (i : Int) + 63 ≤ hi := by omega
            go_wp2
            go_roundw
            case rel => exact ⟨j + 1, by omega, by go_num, congrArg _ (wantK_all bV HV.out HLO.out HHI.out t1 t3), hBr3⟩
            case measure => simp [intOf]; omega
          all_goals
            have g1 : ¬ 64 * (i : Int) + 63 < lo := by omega
            have g2 : ¬ (hi : Int) < 64 * i := by omega
          · have g3 : ¬ (lo : Int) ≤ 64 * i := by omega
            go_wp2
            go_loop [11, 15] (fun v b => ∃ c : Nat, c ≤ 64 ∧ b = .int .i64 c ∧ v = .int .u64 ((V ||| mk (inR lo hi (64 * i)) c : Nat) : Int)) (fun _ b => 64 - (intOf b).toNat)
            case atStart => exact ⟨0, by omega, rfl, by simp [mk]⟩
            case round =>
              obtain ⟨c, hc, rfl, rfl⟩ := hrel
              by_cases hcl : c < 64
              · obtain ⟨Y, hY⟩ : ∃ Y, Y = V ||| mk (inR lo hi (64 * i)) c := ⟨_, rfl⟩
                rw [← hY]
                have bY : Y < 18446744073709551616 := by rw [hY]; exact bits_lt _ bV hc
                have HY := hid hY
                clear hY
                rcases (show (lo ≤ 64 * i + c ∧ 64 * i + c ≤ hi) ∨ (64 * i + c < lo) ∨ (lo ≤ 64 * i + c ∧ hi < 64 * i + c) by omega) with ⟨r1, r2⟩ | r1 | ⟨r1, r2⟩
                · have q1 : (lo : Int) ≤ 64 * i + c := by omega
                  have q2 : 64 * (i : Int) + c ≤ hi := by omega
                  go_wp2
                  go_round
                  case rel => exact ⟨c + 1, by omega, by go_num, congrArg _ (bit_yes _ bY hcl HY.out (by unfold inR; simp [r1, r2]))⟩
                  case measure => simp [intOf]; omega
                · have q1 : ¬ (lo : Int) ≤ 64 * i + c := by omega
                  go_wp2
                  go_round
                  case rel => exact ⟨c + 1, by omega, by go_num, congrArg _ (by rw [bit_no _ HY.out (by unfold inR; simp <;> omega)])⟩
                  case measure => simp [intOf]; omega
                · have q1 : (lo : Int) ≤ 64 * i + c := by omega
                  have q2 : ¬ 64 * (i : Int) + c ≤ hi := by omega
                  go_wp2
                  go_round
                  case rel => exact ⟨c + 1, by omega, by go_num, congrArg _ (by rw [bit_no _ HY.out (by unfold inR; simp <;> omega)])⟩
                  case measure => simp [intOf]; omega
              · obtain rfl : c = 64 := by omega
                go_wp2
                go_roundw
                case rel => exact ⟨j + 1, by omega, by omega, by rw [wantK, ← HV.out, ← HLO.out, ← HHI.out]; rfl⟩
                case measure => simp [intOf]; omega
          · have g3 : (lo : Int) ≤ 64 * i := by omega
            have g4 : ¬ 64 * (i : Int) + 63 ≤ hi := by omega
            go_wp2
            go_loop [11, 15] (fun v b => ∃ c : Nat, c ≤ 64 ∧ b = .int .i64 c ∧ v = .int .u64 ((V ||| mk (inR lo hi (64 * i)) c : Nat) : Int)) (fun _ b => 64 - (intOf b).toNat)
            case atStart => exact ⟨0, by omega, rfl, by simp [mk]⟩
            case round =>
              obtain ⟨c, hc, rfl, rfl⟩ := hrel
              by_cases hcl : c < 64
              · obtain ⟨Y, hY⟩ : ∃ Y, Y = V ||| mk (inR lo hi (64 * i)) c := ⟨_, rfl⟩
                rw [← hY]
                have bY : Y < 18446744073709551616 := by rw [hY]; exact bits_lt _ bV hc
                have HY := hid hY
                clear hY
                rcases (show (lo ≤ 64 * i + c ∧ 64 * i + c ≤ hi) ∨ (64 * i + c < lo) ∨ (lo ≤ 64 * i + c ∧ hi < 64 * i + c) by omega) with ⟨r1, r2⟩ | r1 | ⟨r1, r2⟩
                · have q1 : (lo : Int) ≤ 64 * i + c := by omega
                  have q2 : 64 * (i : Int) + c ≤ hi := by omega
                  go_wp2
                  go_round
                  case rel => exact ⟨c + 1, by omega, by go_num, congrArg _ (bit_yes _ bY hcl HY.out (by unfold inR; simp [r1, r2]))⟩
                  case measure => simp [intOf]; omega
                · omega
                · have q1 : (lo : Int) ≤ 64 * i + c := by omega
                  have q2 : ¬ 64 * (i : Int) + c ≤ hi := by omega
                  go_wp2
                  go_round
                  case rel => exact ⟨c + 1, by omega, by go_num, congrArg _ (by rw [bit_no _ HY.out (by unfold inR; simp <;> omega)])⟩
                  case measure => simp [intOf]; omega
              · obtain rfl : c = 64 := by omega
                go_wp2
                go_roundw
                case rel => exact ⟨j + 1, by omega, by omega, by rw [wantK, ← HV.out, ← HLO.out, ← HHI.out]; rfl⟩
                case measure => simp [intOf]; omega
        · obtain rfl : cnt = j := by omega
          obtain ⟨V, hV⟩ : ∃ V, V = wantK l0 l1 h0 h1 i cnt := ⟨_, rfl⟩
          rw [← hV]
          have cr : wr.cell? ⟨g, i, none⟩ = some (.int .u64 (V : Int)) := by
            have h1 := (hBr2.cell (p := ⟨g, i, none⟩) (by have := HS.out; show g < _; omega)).trans ((HB0.out.cell (p := ⟨g, i, none⟩) hg).trans (HROW.out i hlt))
            rw [h1, HW.out i hlt, ← hV]
          have HV := hid hV
          clear hV
          go_wp2
          go_roundw
          case rel => exact ⟨i + 1, by omega, by go_num, hBr2⟩
          case measure => simp [intOf]; omega
    · go_wp2
      go_ret
      exact ⟨rfl, HB0.out.trans (hBr.mono (by have := HS.out; omega))⟩
end Go.Proofs.Ybulkdfy
