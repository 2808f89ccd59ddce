import Derived.Test.YbulkdgmRows
import Derived.WalkKit
import Derived.WalkLawsBesides
import Derived.WalkSpells
import Derived.Below
import Derived.Laws.CopyRow
namespace Go.Proofs.Ybulkdgm
open Go.RowKit
set_option linter.unusedVariables false

/-- A store of a float into a cell. -/
theorem run_store_float (P : Program) (w : World) (a : Addr) (m : Mode) (k : FloatKind) (b : Nat) : (store a (.float k b) m).run P w = stored P w a (.float k b) m := run_store P w a _ m rfl

/-- math.Float64bits, which has no body. -/
theorem bits_call (x : Nat) (w : World) : (callFunc 7 #[.float .f64 x]).run Yba.prog w = .ok (.value (.int .u64 x)) w := by
  rw [run_callFunc_extern Yba.func7 (by kernel_rfl) (by kernel_rfl) (by kernel_rfl) (e := Extern.MathFloatBits.float64bits) (by kernel_rfl)]
  rfl

theorem hid {p : Prop} (h : p) : Hid p := h

/-- What the walk is told of a slice of floats that came in: it is nil; or it leads to 'len' cells, the bits 'zs'. -/
def IsFloats (w : World) (a : Option Addr) (len cap : Nat) (zs : List Nat) : Prop :=
  (a = none ∧ len = 0 ∧ cap = 0 ∧ zs = []) ∨
  ∃ x, a = some x ∧ len ≤ cap ∧ cap ≤ maxLen ∧ zs.length = len ∧ ∀ i, i < len → w.cell? (x.add i) = some (.float .f64 (zs.getD i 0))

/-- A new row of n zeros. -/
def zf (n : Nat) : Array Value := madeCells #[.float .f64 0] n
theorem zf_size (n : Nat) : (zf n).size = n := by unfold zf; rw [size_madeCells]
theorem zf_get (n i : Nat) (h : i < n) : (zf n)[i]? = some (.float .f64 0) := by
  unfold zf madeCells
  have : i % 1 = 0 := by omega
  simp [h, this]

theorem info23 : (Yba.prog.info? 23).map (fun i => (i.zero, i.size, i.bytes)) = some (some (.float .f64 0), 1, 8) := by kernel_rfl
theorem make_n (n : Nat) (hn : n ≤ 1024) (w : World) : (Instr.makeSlice 22 (.int .i64 n) (.int .i64 n)).run Yba.prog w = .ok (.slice (some ⟨w.heap.size, 0, none⟩) n n) (w.alloc (.cells (zf n) 23)) := by
  obtain ⟨i0, hi, hz0, hz1, hz2⟩ := info_parts info23
  have := run_make (P := Yba.prog) w 22 23 i0 (.float .f64 0) Yba.underlying22 hi hz0 .i64 .i64 n n (by omega) (by omega) (by rw [hz2]; omega) (by omega)
  rw [hz1, Nat.mul_one, Int.toNat_natCast] at this
  exact this

def fl (zs : List Nat) : Array Value := (zs.map (Value.float .f64)).toArray
theorem fl_size (zs : List Nat) : (fl zs).size = zs.length := by simp [fl]
theorem fl_get (zs : List Nat) (i : Nat) (h : i < zs.length) : (fl zs)[i]? = some (.float .f64 (zs.getD i 0)) := by
  simp [fl, List.getElem?_eq_getElem h, List.getD]

theorem setRow_new (w : World) (c d : Array Value) (t : TypeId) : (w.alloc (.cells c t)).setRow w.heap.size d = w.alloc (.cells d t) := by
  unfold World.setRow World.alloc
  congr 1
  apply Array.ext_getElem?
  intro i
  rw [Array.getElem?_modify]
  by_cases h : w.heap.size = i
  · subst h; simp
  · rw [if_neg h]
    simp only [Array.getElem?_push]
    rw [if_neg (fun e => h e.symm), if_neg (fun e => h e.symm)]

/-- 'copy(zc, z)' into the row just made. -/
theorem copy_n (w : World) (x : Addr) (n cap : Nat) (zs : List Nat) (hz : zs.length = n) (hc : ∀ i, i < n → w.cell? (x.add i) = some (.float .f64 (zs.getD i 0))) :
    (Builtin.copy_ #[22, 22] 3 #[.slice (some ⟨w.heap.size, 0, none⟩) n n, .slice (some x) n cap]).run Yba.prog (w.alloc (.cells (zf n) 23)) = .ok (.int .i64 n) (w.alloc (.cells (fl zs) 23)) := by
  have h := run_copy_row (P := Yba.prog) (w.alloc (.cells (zf n) 23)) 22 22 3 23 w.heap.size 0 n n x n cap (zf n) 23 (zs.map (Value.float .f64)) Yba.underlying22
    (by have := info23; cases h : Yba.prog.info? 23 with | none => simp [h] at this | some i => simp [h] at this; simp [this]) (MapKept.heap_alloc w _).1 (by simp [hz]) ?_ (by simp [zf_size, hz]) (by intro v hv; simp at hv; obtain ⟨y, _, rfl⟩ := hv; rfl)
  · rw [h]
    have e1 : (List.take 0 (zf n).toList ++ zs.map (Value.float .f64) ++ List.drop (0 + (zs.map (Value.float .f64)).length) (zf n).toList).toArray = fl zs := by
      have : (zf n).toList.length = n := by simp [zf_size]
      simp [fl, hz, List.drop_eq_nil_of_le (Nat.le_of_eq this)]
    rw [e1, setRow_new]
    simp [goInt, hz]
  · intro j v hj
    have hjl : j < zs.length := by
      have := (List.getElem?_eq_some_iff.1 hj).1
      simpa using this
    have e := hc j (by omega)
    have hlt := World.block_lt_of_cell? w _ e
    rw [World.cell?_alloc_old _ _ _ (by omega), e]
    simp [List.getElem?_eq_getElem hjl] at hj
    simp [List.getD, List.getElem?_eq_getElem hjl, hj]
theorem copy_0 (w : World) (g : Nat) : (Builtin.copy_ #[22, 22] 3 #[.slice (some ⟨g, 0, none⟩) 0 0, .slice none 0 0]).run Yba.prog w = .ok (.int .i64 0) w :=
  run_copy_nil (P := Yba.prog) w 22 22 3 23 ⟨g, 0, none⟩ 0 0 Yba.underlying22 (by kernel_rfl)
end Go.Proofs.Ybulkdgm
