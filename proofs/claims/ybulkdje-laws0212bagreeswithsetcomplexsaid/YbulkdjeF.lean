import Derived.Test.YbulkdjeRows
import Derived.WalkKit
import Derived.WalkLawsBesides
import Derived.WalkSpells
import Derived.Below
namespace Go.Proofs.Ybulkdje
open Go.RowKit
set_option linter.unusedVariables false

/-- A store of a float, of a complex number, into a cell. -/
theorem run_store_float (P : Program) (w : World) (a : Addr) (m : Mode) (k : FloatKind) (b : Nat) : (store a (.float k b) m).run P w = stored P w a (.float k b) m := run_store P w a _ m rfl
theorem run_store_complex (P : Program) (w : World) (a : Addr) (m : Mode) (k : FloatKind) (b c : Nat) : (store a (.complex k b c) m).run P w = stored P w a (.complex k b c) m := run_store P w a _ m rfl

theorem hid {p : Prop} (h : p) : Hid p := h

def nan (x : Nat) : Bool := (Ieee.double.read x).isNaN
theorem d_sw : Ieee.double.signWeight = 9223372036854775808 := by decide
theorem d_bn : Ieee.double.binade = 4503599627370496 := by decide
theorem d_ir : Ieee.double.infRung = 9218868437227405312 := by decide
theorem d_lp : Ieee.double.leastPlace = -1074 := by decide

theorem order_self (x : Nat) (h : nan x = false) : FloatKind.f64.format.order x x = some .eq := by
  show (Ieee.double.read x).order (Ieee.double.read x) = some .eq
  unfold nan at h
  cases e : Ieee.double.read x with
  | number s m i => simp [Ieee.Datum.order, compare, compareOfLessAndEq]
  | infinity s => simp [Ieee.Datum.order, compare, compareOfLessAndEq]
  | nan s t => simp [e, Ieee.Datum.isNaN] at h

theorem nan_word (neg : Bool) (r : Nat) (h : r ≤ 9218868437227405312) : nan (Ieee.double.word neg r) = false := by
  have hm : Ieee.double.word neg r % 9223372036854775808 = r := by
    unfold Ieee.Format.word
    rw [d_sw]
    cases neg <;> simp <;> omega
  unfold nan Ieee.Format.read
  dsimp only
  rw [d_sw, d_bn, d_ir, hm]
  by_cases h1 : r < 4503599627370496
  · rw [if_pos h1]; rfl
  · rw [if_neg h1]
    by_cases h2 : r < 9218868437227405312
    · rw [if_pos h2]; rfl
    · rw [if_neg h2, if_pos (by omega)]; rfl
theorem nan_int (n : Int) : nan (floatOfInt .f64 n) = false := by
  show nan (Ieee.double.nearest (decide (n < 0)) n.natAbs 0) = false
  unfold Ieee.Format.nearest
  split
  · exact nan_word _ _ (by omega)
  · exact nan_word _ _ (by rw [d_ir]; exact Nat.min_le_right _ _)
theorem order_int (n : Int) : FloatKind.f64.format.order (floatOfInt .f64 n) (floatOfInt .f64 n) = some .eq := order_self _ (nan_int n)
end Go.Proofs.Ybulkdje
