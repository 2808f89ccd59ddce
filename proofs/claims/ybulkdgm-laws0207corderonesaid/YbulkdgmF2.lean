import Derived.Test.YbulkdgmF1
import Derived.ProofKit
import Derived.OpenShut
import Derived.ShutString
import Derived.ChangeOld
namespace Go.Proofs.Ybulkdgm
open Go.ChangeShapes Go.WideShapes Go.ChangeAt Go.RowKit
set_option linter.unusedVariables false

theorem own : ownKnob Yba.prog.godebug = none := by kernel_rfl
theorem laidOut : laidOutB Yba.prog = true := by kernel_rfl

theorem trod_float {H : Type} {enc : TypeId × Value → H} {P : Program} {w : World} {base : Nat} {spare : Nat → Bool} {held : Bool} {fuel : Nat} {t : TypeId} {cs : List Value} {x : DataW H × List MemPlace} {k : FloatKind}
    (ht : P.underlying t = some (.float k)) (h : DataW.trod enc P w base spare held fuel t cs = some x) : ∃ n, cs = [.float k n] := by
  cases fuel with
  | zero => simp [DataW.trod] at h
  | succ n =>
    unfold DataW.trod at h
    rw [ht] at h
    split at h <;> simp_all

theorem open_floats {H : Type} {enc : TypeId × Value → H} {P : Program} {w : World} {base : Nat} {spare : Nat → Bool} {held : Bool} {t e : TypeId} {fuel : Nat} {a : Option Addr} {len cap : Nat} {x : DataW H × List MemPlace} (ht : P.underlying t = some (.slice e)) (he : P.underlying e = some (.float .f64)) (hc : P.cellsOf e = 1)
    (h : DataW.trod enc P w base spare held fuel t [.slice a len cap] = some x) : ∃ zs, IsFloats w a len cap zs := by
  rcases DataW.trod_slice ht h with ⟨h0, _⟩ | ⟨a', len', cap', elems, rest, n, _, hcs, _, hb, hl, hm, hlen, hel, hsp, hns⟩
  · simp at h0
    obtain ⟨rfl, rfl, rfl⟩ := h0
    exact ⟨[], .inl ⟨rfl, rfl, rfl, rfl⟩⟩
  simp at hcs
  obtain ⟨rfl, rfl, rfl⟩ := hcs
  have each : ∀ i, i < len → ∃ b, w.cell? (a'.add i) = some (.float .f64 b) := by
    intro i hi
    have h1 := hel i hi
    rw [List.getElem?_eq_getElem (by omega), hc, Nat.mul_one, Option.bind_eq_some_iff] at h1
    obtain ⟨cs', hcs', hy'⟩ := h1
    obtain ⟨b, rfl⟩ := trod_float he hy'
    exact ⟨b, cell_of_cells?_one hcs'⟩
  have : ∀ n, n ≤ len → ∃ zs : List Nat, zs.length = n ∧ ∀ i, i < n → w.cell? (a'.add i) = some (.float .f64 (zs.getD i 0)) := by
    intro n
    induction n with
    | zero => intro _; exact ⟨[], rfl, fun i hi => by omega⟩
    | succ n ih =>
      intro hn
      obtain ⟨zs, hz, hcell⟩ := ih (by omega)
      obtain ⟨b, hbb⟩ := each n (by omega)
      refine ⟨zs ++ [b], by simp [hz], fun i hi => ?_⟩
      by_cases e : i = n
      · subst e; rw [hbb]; simp [List.getD, ← hz]
      · rw [hcell i (by omega)]; simp [List.getD, List.getElem?_append_left (show i < zs.length by omega)]
  obtain ⟨zs, hz, hcell⟩ := this len (Nat.le_refl _)
  exact ⟨zs, .inr ⟨a', rfl, hl, hm, hz, hcell⟩⟩

end Go.Proofs.Ybulkdgm
