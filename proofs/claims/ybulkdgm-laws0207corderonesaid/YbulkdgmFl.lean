import Derived.Test.YbulkdgmF1
import Derived.Deep.Draws
namespace Go.Proofs.Ybulkdgm
open Go.RowKit
set_option linter.unusedVariables false

/-- What a float operation gives in the world w: the IEEE result, or a NaN whose bits the tape tells. -/
def fres (op : BinOp) (x y : Nat) (w : World) : Nat := match floatBits op .f64 x y with | some r => r | none => Question.cut (.nanBits .f64 x y) (w.tape w.drawn (.nanBits .f64 x y))
/-- How many answers it draws. -/
def fd (op : BinOp) (x y : Nat) : Nat := match floatBits op .f64 x y with | some _ => 0 | none => 1
/-- The same with one NaN for all. -/
def fop (op : BinOp) (x y : Nat) : Nat := (floatBits op .f64 x y).getD 9221120237041090561

theorem run_fadd (P : Program) (w : World) (t : TypeId) (x y : Nat) : (binOp .add t (.float .f64 x) (.float .f64 y)).run P w = .ok (.float .f64 (fres .add x y w)) (w.drewN (fd .add x y)) := by
  cases h : floatBits .add .f64 x y with
  | some r => rw [run_float_arith w .add t .f64 x y r h]; simp [fres, fd, h, World.drewN_zero]
  | none =>
    have h' : FloatKind.f64.format.add x y = none := h
    simp [binOp, Op.floatArith, h', fres, fd, h, choose, Sem.run, Question.forced, World.drewN]
theorem run_fsub (P : Program) (w : World) (t : TypeId) (x y : Nat) : (binOp .sub t (.float .f64 x) (.float .f64 y)).run P w = .ok (.float .f64 (fres .sub x y w)) (w.drewN (fd .sub x y)) := by
  cases h : floatBits .sub .f64 x y with
  | some r => rw [run_float_arith w .sub t .f64 x y r h]; simp [fres, fd, h, World.drewN_zero]
  | none =>
    have h' : FloatKind.f64.format.sub x y = none := h
    simp [binOp, Op.floatArith, h', fres, fd, h, choose, Sem.run, Question.forced, World.drewN]
theorem run_fmul (P : Program) (w : World) (t : TypeId) (x y : Nat) : (binOp .mul t (.float .f64 x) (.float .f64 y)).run P w = .ok (.float .f64 (fres .mul x y w)) (w.drewN (fd .mul x y)) := by
  cases h : floatBits .mul .f64 x y with
  | some r => rw [run_float_arith w .mul t .f64 x y r h]; simp [fres, fd, h, World.drewN_zero]
  | none =>
    have h' : FloatKind.f64.format.mul x y = none := h
    simp [binOp, Op.floatArith, h', fres, fd, h, choose, Sem.run, Question.forced, World.drewN]
theorem run_fquo (P : Program) (w : World) (t : TypeId) (x y : Nat) : (binOp .quo t (.float .f64 x) (.float .f64 y)).run P w = .ok (.float .f64 (fres .quo x y w)) (w.drewN (fd .quo x y)) := by
  cases h : floatBits .quo .f64 x y with
  | some r => rw [run_float_arith w .quo t .f64 x y r h]; simp [fres, fd, h, World.drewN_zero]
  | none =>
    have h' : FloatKind.f64.format.div x y = none := h
    simp [binOp, Op.floatArith, h', fres, fd, h, choose, Sem.run, Question.forced, World.drewN]

def nan (x : Nat) : Bool := (Ieee.double.read x).isNaN
/-- Equal, or both NaN. -/
def Sim (x y : Nat) : Prop := x = y ∨ (nan x = true ∧ nan y = true)
theorem Sim.refl (x : Nat) : Sim x x := .inl rfl
theorem Sim.symm {x y : Nat} (h : Sim x y) : Sim y x := h.elim (fun e => .inl e.symm) (fun ⟨a, b⟩ => .inr ⟨b, a⟩)
theorem Sim.trans {x y z : Nat} (h : Sim x y) (k : Sim y z) : Sim x z := by
  rcases h with rfl | ⟨a, b⟩
  · exact k
  · rcases k with rfl | ⟨c, d⟩
    · exact .inr ⟨a, b⟩
    · exact .inr ⟨a, d⟩

theorem d_sw : Ieee.double.signWeight = 9223372036854775808 := by decide
theorem d_bn : Ieee.double.binade = 4503599627370496 := by decide
theorem d_ir : Ieee.double.infRung = 9218868437227405312 := by decide
theorem d_lp : Ieee.double.leastPlace = -1074 := by decide

theorem read_nan (x : Nat) (h : 9218868437227405312 < x % 9223372036854775808) : nan x = true := by
  unfold nan Ieee.Format.read
  dsimp only
  rw [if_neg (by rw [d_bn, d_sw]; omega), if_neg (by rw [d_ir, d_sw]; omega), if_neg (by rw [d_ir, d_sw]; omega)]
  rfl

theorem nan_cut (x y t : Nat) : nan (Question.cut (.nanBits .f64 x y) t) = true := by
  have h : Question.cut (.nanBits .f64 x y) t = (t % 2) * 9223372036854775808 + 9218868437227405312 + 1 + (t / 2) % 4503599627370495 := rfl
  rw [h]
  have h1 : (t / 2) % 4503599627370495 < 4503599627370495 := Nat.mod_lt _ (by decide)
  generalize (t / 2) % 4503599627370495 = r at *
  rcases (show t % 2 = 0 ∨ t % 2 = 1 by omega) with e | e
  · rw [e]; exact read_nan _ (by omega)
  · rw [e]; exact read_nan _ (by omega)

theorem fop_none {op : BinOp} {x y : Nat} (h : floatBits op .f64 x y = none) : nan (fop op x y) = true := by
  unfold fop; rw [h]; decide

theorem fres_sim (op : BinOp) (x y : Nat) (w : World) : Sim (fres op x y w) (fop op x y) := by
  cases h : floatBits op .f64 x y with
  | some r => exact .inl (by simp [fres, fop, h])
  | none => exact .inr ⟨by simp only [fres, h]; exact nan_cut _ _ _, fop_none h⟩

theorem floatBits_nan_left (op : BinOp) (x y : Nat) (h : nan x = true) : floatBits op .f64 x y = none := by
  unfold nan at h
  have e : ∃ s t, Ieee.double.read x = .nan s t := by
    cases hr : Ieee.double.read x <;> simp [hr, Ieee.Datum.isNaN] at h
    exact ⟨_, _, rfl⟩
  obtain ⟨s, t, e⟩ := e
  cases op <;> first | rfl | skip
  all_goals simp [floatBits, FloatKind.format, Ieee.Format.add, Ieee.Format.sub, Ieee.Format.mul, Ieee.Format.div, e, Ieee.Datum.sum, Ieee.Datum.product, Ieee.Datum.quotient]
theorem floatBits_nan_right (op : BinOp) (x y : Nat) (h : nan y = true) : floatBits op .f64 x y = none := by
  unfold nan at h
  have e : ∃ s t, Ieee.double.read y = .nan s t := by
    cases hr : Ieee.double.read y <;> simp [hr, Ieee.Datum.isNaN] at h
    exact ⟨_, _, rfl⟩
  obtain ⟨s, t, e⟩ := e
  cases op <;> first | rfl | skip
  all_goals
    simp only [floatBits, FloatKind.format, Ieee.Format.add, Ieee.Format.sub, Ieee.Format.mul, Ieee.Format.div, e, Ieee.Datum.opposite]
    cases Ieee.double.read x <;> rfl

theorem Sim.fop {op : BinOp} {x x' y y' : Nat} (h : Sim x x') (k : Sim y y') : Sim (fop op x y) (fop op x' y') := by
  rcases h with rfl | ⟨a, b⟩
  · rcases k with rfl | ⟨c, d⟩
    · exact Sim.refl _
    · exact .inr ⟨fop_none (floatBits_nan_right _ _ _ c), fop_none (floatBits_nan_right _ _ _ d)⟩
  · exact .inr ⟨fop_none (floatBits_nan_left _ _ _ a), fop_none (floatBits_nan_left _ _ _ b)⟩

/-- A float operation carried out on what is Sim to x' and y' gives what is Sim to the plain function of them. -/
theorem fres_op {op : BinOp} {x x' y y' : Nat} {w : World} (h : Sim x x') (k : Sim y y') : Sim (fres op x y w) (fop op x' y') := (fres_sim op x y w).trans (h.fop k)

theorem order_self (x : Nat) (h : nan x = false) : FloatKind.f64.format.order x x = some .eq := by
  show (Ieee.double.read x).order (Ieee.double.read x) = some .eq
  unfold nan at h
  cases e : Ieee.double.read x with
  | number s m i => simp [Ieee.Datum.order, compare, compareOfLessAndEq]
  | infinity s => simp [Ieee.Datum.order, compare, compareOfLessAndEq]
  | nan s t => simp [e, Ieee.Datum.isNaN] at h
theorem order_nan (x y : Nat) (h : nan x = true) : FloatKind.f64.format.order x y = none := by
  show (Ieee.double.read x).order (Ieee.double.read y) = none
  unfold nan at h
  cases e : Ieee.double.read x <;> simp [e, Ieee.Datum.isNaN] at h
  rfl

theorem same_any (a b : Nat) (h : Sim a b) (w : World) : Calls Yba.prog 8 #[.float .f64 a, .float .f64 b] w fun e w' => e = .returned (.bool true) ∧ w' = w := by
  rcases h with rfl | ⟨ha, hb⟩
  · cases hn : nan a with
    | false =>
      have h1 := order_self a hn
      go_enter Yba.func8, Yba.ntmps8
      go_wp2
      go_ret
      exact ⟨rfl, rfl⟩
    | true =>
      have h1 := order_nan a a hn
      go_enter Yba.func8, Yba.ntmps8
      go_wp2
      go_ret
      exact ⟨rfl, rfl⟩
  · have h1 := order_nan a a ha
    have h2 := order_nan b b hb
    go_enter Yba.func8, Yba.ntmps8
    go_wp2
    go_ret
    exact ⟨rfl, rfl⟩
end Go.Proofs.Ybulkdgm
