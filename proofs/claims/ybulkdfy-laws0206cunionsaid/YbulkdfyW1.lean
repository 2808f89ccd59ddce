import Derived.Test.YbulkdfyRows
import Derived.WalkKit
import Derived.WalkLawsBesides
import Derived.WalkSpells
import Derived.Below
import Derived.Laws.BytesArg
import Derived.Laws.IdiomCopy
namespace Go.Proofs.Ybulkdfy
open Go.RowKit
set_option linter.unusedVariables false

def p10 : Nat → Int
  | 0 => 1
  | n + 1 => p10 n * 10

theorem p10_pos : ∀ n, 1 ≤ p10 n
  | 0 => by simp [p10]
  | n + 1 => by have := p10_pos n; simp [p10]; omega
theorem p10_mono (n m : Nat) (h : n ≤ m) : p10 n ≤ p10 m := by
  induction m with
  | zero => have : n = 0 := by omega
            subst this; exact Int.le_refl _
  | succ m ih =>
    by_cases e : n = m + 1
    · subst e; exact Int.le_refl _
    · have := ih (by omega); have := p10_pos m; simp [p10]; omega
theorem p10_le (n : Nat) (h : n ≤ 6) : p10 n ≤ 1000000 := p10_mono n 6 h

set_option maxHeartbeats 400000 in
theorem pow_any (k : Nat) (hk : k ≤ 6) (w : World) :
    Calls Yba.prog 8 #[.int .i64 k] w fun e w' => e = .returned (.int .i64 (p10 k)) ∧ w' = w := by
  go_enter Yba.func8, Yba.ntmps8
  go_wp2
  go_loop [3, 4] (fun p j => ∃ i : Nat, i ≤ k ∧ j = .int .i64 i ∧ p = .int .i64 (p10 i)) (fun _ j => k - (intOf j).toNat)
  case atStart => exact ⟨0, Nat.zero_le _, rfl, rfl⟩
  case round =>
    obtain ⟨i, hi, rfl, rfl⟩ := hrel
    have h1 := p10_pos i
    have h2 := p10_le i (by omega)
    by_cases hlt : i < k
    · go_wp2
      go_round
      case rel => exact ⟨i + 1, by omega, by go_num, rfl⟩
      case measure => simp [intOf]; omega
    · go_wp2
      go_ret
      obtain rfl : i = k := by omega
      exact ⟨rfl, rfl⟩
theorem cell_new (w : World) (c : Array Value) (t : TypeId) (i : Nat) (v : Value) (h : c[i]? = some v) : (w.alloc (.cells c t)).cell? ⟨w.heap.size, i, none⟩ = some v := by
  have e : (w.alloc (.cells c t)).heap[w.heap.size]? = some (.cells c t) := (MapKept.heap_alloc w _).1
  unfold World.cell?
  simp only
  rw [e]
  exact h

theorem conv_new (w : World) (ns : List Int) : (convert 45 9 (.slice (some ⟨w.heap.size, 0, none⟩) ns.length ns.length)).run Yba.prog (w.alloc (.cells (ns.map (Value.int .u8)).toArray 5)) =
    .ok (.string (strOfNums ns)) (w.alloc (.cells (ns.map (Value.int .u8)).toArray 5)) := by
  refine run_convert_bytes_arg _ 45 5 Yba.underlying45 Yba.underlying5 _ _ _ _ ns rfl ?_ 9 Yba.underlying9
  intro i hi
  refine cell_new _ _ _ _ _ ?_
  simp [List.getElem?_eq_getElem hi, List.getD]

def dig : Nat → Int → List Int
  | 0, _ => []
  | n + 1, x => dig n (x / 10) ++ [48 + x % 10]

set_option maxHeartbeats 400000 in
theorem code2 (x : Int) (h0 : 0 ≤ x) (h1 : x < 100) (w : World) :
    Calls Yba.prog 9 #[.int .i64 2, .int .i64 x] w fun e w' => e = .returned (.agg #[.string (strOfNums (dig 2 x))]) ∧ Below w.heap.size w w' := by
  have hmk : ∀ w, (Instr.makeSlice 45 (.int .i64 2) (.int .i64 2)).run Yba.prog w = .ok (.slice (some ⟨w.heap.size, 0, none⟩) 2 2) (w.alloc (.cells #[.int .u8 0, .int .u8 0] 5)) := fun _ => by kernel_rfl
  have hcv : ∀ o (c d : Int), _ := fun o c d => conv_new (w.alloc o) [c, d]
  simp only [World.size_alloc, List.length_cons, List.length_nil, List.map_cons, List.map_nil, Nat.zero_add, Nat.reduceAdd] at hcv
  go_enter Yba.func9, Yba.ntmps9
  go_wp2
  refine wp_loop_rounds 3 ?_
  rw [rounds_succ]
  go_wp2
  rw [rounds_succ]
  go_wp2
  rw [rounds_succ]
  go_wp2
  exact bodyPost_ret (v := .agg #[.string (strOfNums [48 + x / 10 % 10, 48 + x % 10])]) (by simp [results, Yba.results9, go_sem]) rfl ⟨rfl, ((Below.refl _ _).alloc (Nat.le_refl _) _).alloc (by simp) _⟩

set_option maxHeartbeats 400000 in
theorem code4 (x : Int) (h0 : 0 ≤ x) (h1 : x < 10000) (w : World) :
    Calls Yba.prog 9 #[.int .i64 4, .int .i64 x] w fun e w' => e = .returned (.agg #[.string (strOfNums (dig 4 x))]) ∧ Below w.heap.size w w' := by
  have hmk : ∀ w, (Instr.makeSlice 45 (.int .i64 4) (.int .i64 4)).run Yba.prog w = .ok (.slice (some ⟨w.heap.size, 0, none⟩) 4 4) (w.alloc (.cells #[.int .u8 0, .int .u8 0, .int .u8 0, .int .u8 0] 5)) := fun _ => by kernel_rfl
  have hcv : ∀ o (a b c d : Int), _ := fun o a b c d => conv_new (w.alloc o) [a, b, c, d]
  simp only [World.size_alloc, List.length_cons, List.length_nil, List.map_cons, List.map_nil, Nat.zero_add, Nat.reduceAdd] at hcv
  go_enter Yba.func9, Yba.ntmps9
  go_wp2
  refine wp_loop_rounds 5 ?_
  rw [rounds_succ]
  go_wp2
  rw [rounds_succ]
  go_wp2
  rw [rounds_succ]
  go_wp2
  rw [rounds_succ]
  go_wp2
  rw [rounds_succ]
  go_wp2
  exact bodyPost_ret (v := .agg #[.string (strOfNums [48 + x / 10 / 10 / 10 % 10, 48 + x / 10 / 10 % 10, 48 + x / 10 % 10, 48 + x % 10])]) (by simp [results, Yba.results9, go_sem]) rfl ⟨rfl, ((Below.refl _ _).alloc (Nat.le_refl _) _).alloc (by simp) _⟩

set_option maxHeartbeats 400000 in
theorem code6 (x : Int) (h0 : 0 ≤ x) (h1 : x < 1000000) (w : World) :
    Calls Yba.prog 9 #[.int .i64 6, .int .i64 x] w fun e w' => e = .returned (.agg #[.string (strOfNums (dig 6 x))]) ∧ Below w.heap.size w w' := by
  have hmk : ∀ w, (Instr.makeSlice 45 (.int .i64 6) (.int .i64 6)).run Yba.prog w = .ok (.slice (some ⟨w.heap.size, 0, none⟩) 6 6) (w.alloc (.cells #[.int .u8 0, .int .u8 0, .int .u8 0, .int .u8 0, .int .u8 0, .int .u8 0] 5)) := fun _ => by kernel_rfl
  have hcv : ∀ o (a b c d e f : Int), _ := fun o a b c d e f => conv_new (w.alloc o) [a, b, c, d, e, f]
  simp only [World.size_alloc, List.length_cons, List.length_nil, List.map_cons, List.map_nil, Nat.zero_add, Nat.reduceAdd] at hcv
  go_enter Yba.func9, Yba.ntmps9
  go_wp2
  refine wp_loop_rounds 7 ?_
  rw [rounds_succ]
  go_wp2
  rw [rounds_succ]
  go_wp2
  rw [rounds_succ]
  go_wp2
  rw [rounds_succ]
  go_wp2
  rw [rounds_succ]
  go_wp2
  rw [rounds_succ]
  go_wp2
  rw [rounds_succ]
  go_wp2
  exact bodyPost_ret (v := .agg #[.string (strOfNums [48 + x / 10 / 10 / 10 / 10 / 10 % 10, 48 + x / 10 / 10 / 10 / 10 % 10, 48 + x / 10 / 10 / 10 % 10, 48 + x / 10 / 10 % 10, 48 + x / 10 % 10, 48 + x % 10])]) (by simp [results, Yba.results9, go_sem]) rfl ⟨rfl, ((Below.refl _ _).alloc (Nat.le_refl _) _).alloc (by simp) _⟩

def num6 (a b c d e f : Int) : Int := (((((a - 48) * 10 + (b - 48)) * 10 + (c - 48)) * 10 + (d - 48)) * 10 + (e - 48)) * 10 + (f - 48)

set_option maxHeartbeats 400000 in
theorem number_any (a b c d e f : Int) (ha : 48 ≤ a ∧ a ≤ 57) (hb : 48 ≤ b ∧ b ≤ 57) (hc : 48 ≤ c ∧ c ≤ 57) (hd : 48 ≤ d ∧ d ≤ 57) (he : 48 ≤ e ∧ e ≤ 57) (hf : 48 ≤ f ∧ f ≤ 57) (w : World) :
    Calls Yba.prog 12 #[.agg #[.int .u8 a, .int .u8 b, .int .u8 c, .int .u8 d, .int .u8 e, .int .u8 f]] w fun e' w' => e' = .returned (.int .i64 (num6 a b c d e f)) ∧ w' = w.alloc (.cells #[.int .u8 a, .int .u8 b, .int .u8 c, .int .u8 d, .int .u8 e, .int .u8 f] 46) := by
  obtain ⟨a1, a2⟩ := ha
  obtain ⟨b1, b2⟩ := hb
  obtain ⟨c1, c2⟩ := hc
  obtain ⟨d1, d2⟩ := hd
  obtain ⟨e1, e2⟩ := he
  obtain ⟨f1, f2⟩ := hf
  have i0 : ∀ w, (Instr.index 46 (.agg #[.int .u8 a, .int .u8 b, .int .u8 c, .int .u8 d, .int .u8 e, .int .u8 f]) (.int .i64 0)).run Yba.prog w = .ok (.int .u8 a) w := fun _ => by kernel_rfl
  have i1 : ∀ w, (Instr.index 46 (.agg #[.int .u8 a, .int .u8 b, .int .u8 c, .int .u8 d, .int .u8 e, .int .u8 f]) (.int .i64 1)).run Yba.prog w = .ok (.int .u8 b) w := fun _ => by kernel_rfl
  have i2 : ∀ w, (Instr.index 46 (.agg #[.int .u8 a, .int .u8 b, .int .u8 c, .int .u8 d, .int .u8 e, .int .u8 f]) (.int .i64 2)).run Yba.prog w = .ok (.int .u8 c) w := fun _ => by kernel_rfl
  have i3 : ∀ w, (Instr.index 46 (.agg #[.int .u8 a, .int .u8 b, .int .u8 c, .int .u8 d, .int .u8 e, .int .u8 f]) (.int .i64 3)).run Yba.prog w = .ok (.int .u8 d) w := fun _ => by kernel_rfl
  have i4 : ∀ w, (Instr.index 46 (.agg #[.int .u8 a, .int .u8 b, .int .u8 c, .int .u8 d, .int .u8 e, .int .u8 f]) (.int .i64 4)).run Yba.prog w = .ok (.int .u8 e) w := fun _ => by kernel_rfl
  have i5 : ∀ w, (Instr.index 46 (.agg #[.int .u8 a, .int .u8 b, .int .u8 c, .int .u8 d, .int .u8 e, .int .u8 f]) (.int .i64 5)).run Yba.prog w = .ok (.int .u8 f) w := fun _ => by kernel_rfl
  go_enter Yba.func12, Yba.ntmps12
  go_wp2
  refine wp_loop_rounds 7 ?_
  rw [rounds_succ]
  go_wp2
  rw [rounds_succ]
  go_wp2
  rw [rounds_succ]
  go_wp2
  rw [rounds_succ]
  go_wp2
  rw [rounds_succ]
  go_wp2
  rw [rounds_succ]
  go_wp2
  rw [rounds_succ]
  go_wp2
  go_ret
  exact ⟨rfl, rfl⟩
theorem info5 : (Yba.prog.info? 5).map (·.size) = some 1 := by kernel_rfl

theorem bytes_of_nums (ns : List Int) (hb : ∀ n ∈ ns, 0 ≤ n ∧ n < 256) : (List.map (fun b : UInt8 => Value.int IntKind.u8 (b.toNat : Int)) (strOfNums ns).data.toList) = ns.map (Value.int .u8) := by
  rw [strOfNums_data, List.map_map]
  refine List.map_congr_left fun n hn => ?_
  obtain ⟨h1, h2⟩ := hb n hn
  simp
  omega

theorem copy_str (W : World) (b : Nat) (ns : List Int) (hb : ∀ n ∈ ns, 0 ≤ n ∧ n < 256) (hl : ns.length ≤ 6)
    (hc : ∀ j, j < ns.length → (W.cell? ⟨b, j, none⟩).isSome = true) (hf : ∀ j, j < ns.length → W.frozen? ⟨b, j, none⟩ = false) :
    (Builtin.copy_ #[45, 9] 3 #[.slice (some ⟨b, 0, none⟩) 6 6, .string (strOfNums ns)]).run Yba.prog W = .ok (.int .i64 ns.length) (W.setCells b 0 (ns.map (Value.int .u8))) := by
  have hst := run_storeCells_cells (P := Yba.prog) b 0 (ns.map (Value.int .u8)) 0 W (by simpa using hc) (by simpa using hf) (by intro v hv; simp at hv; obtain ⟨x, _, rfl⟩ := hv; rfl)
  have hsz : (strOfNums ns).size = ns.length := strOfNums_size ns
  have hmin : Nat.min ns.length 6 = ns.length := Nat.min_eq_left hl
  have hby := bytes_of_nums ns hb
  have htk : List.take ns.length (List.map (fun b : UInt8 => Value.int IntKind.u8 (b.toNat : Int)) (strOfNums ns).data.toList) = ns.map (Value.int .u8) := by
    rw [hby, List.take_of_length_le (by simp)]
  obtain ⟨i, hq⟩ : ∃ i, Yba.prog.info? 5 = some i := by
    cases h : Yba.prog.info? 5 with
    | none => have := info5; simp [h] at this
    | some i => exact ⟨i, rfl⟩
  simp [Builtin.copy_, run_underlying Yba.underlying45, Builtin.lenOf, Builtin.firstCells, sizeOf, typeInfo, hq, hsz, hmin]
  rw [htk, hst]
  simp [Result.andThen, goInt]

set_option maxHeartbeats 400000 in
theorem span2 (a b : Int) (ha : 48 ≤ a ∧ a ≤ 57) (hb : 48 ≤ b ∧ b ≤ 57) (w : World) :
    Calls Yba.prog 11 #[.agg #[.string (strOfNums [a, b])]] w fun e w' => e = .returned (.tuple #[.agg #[.int .u8 a, .int .u8 b, .int .u8 48, .int .u8 48, .int .u8 48, .int .u8 48], .agg #[.int .u8 a, .int .u8 b, .int .u8 57, .int .u8 57, .int .u8 57, .int .u8 57]]) ∧ Below w.heap.size w w' := by
  have hcp : ∀ (W : World) (B : Nat), (W.cell? ⟨B, 0, none⟩).isSome = true → (W.cell? ⟨B, 1, none⟩).isSome = true → W.frozen? ⟨B, 0, none⟩ = false → W.frozen? ⟨B, 1, none⟩ = false → 
     (Builtin.copy_ #[45, 9] 3 #[.slice (some ⟨B, 0, none⟩) 6 6, .string (strOfNums [a, b])]).run Yba.prog W = .ok (.int .i64 2) ((W.setCell ⟨B, 0, none⟩ (.int .u8 a)).setCell ⟨B, 1, none⟩ (.int .u8 b)) := by
    intro W B c0 c1 f0 f1
    have := copy_str W B [a, b] (by simp; omega) (by simp) (by intro j hj; match j, hj with | 0, _ => exact c0 | 1, _ => exact c1) (by intro j hj; match j, hj with | 0, _ => exact f0 | 1, _ => exact f1)
    simpa [World.setCells] using this
  go_enter Yba.func11, Yba.ntmps11
  go_wp2
  go_region
  go_wp2
  go_region
  go_wp2
  refine wp_loop_rounds 5 ?_
  rw [rounds_succ]
  go_wp2
  rw [rounds_succ]
  go_wp2
  rw [rounds_succ]
  go_wp2
  rw [rounds_succ]
  go_wp2
  rw [rounds_succ]
  go_wp2
  exact bodyPost_ret (v := .tuple #[.agg #[.int .u8 a, .int .u8 b, .int .u8 48, .int .u8 48, .int .u8 48, .int .u8 48], .agg #[.int .u8 a, .int .u8 b, .int .u8 57, .int .u8 57, .int .u8 57, .int .u8 57]]) (by simp [results, Yba.results11, go_sem]) rfl ⟨rfl, ((((Below.refl _ _).alloc (Nat.le_refl _) _).alloc (by simp) _).alloc (by simp; omega) _).drew.drew⟩

set_option maxHeartbeats 400000 in
theorem span4 (a b c d : Int) (ha : 48 ≤ a ∧ a ≤ 57) (hb : 48 ≤ b ∧ b ≤ 57) (hc : 48 ≤ c ∧ c ≤ 57) (hd : 48 ≤ d ∧ d ≤ 57) (w : World) :
    Calls Yba.prog 11 #[.agg #[.string (strOfNums [a, b, c, d])]] w fun e w' => e = .returned (.tuple #[.agg #[.int .u8 a, .int .u8 b, .int .u8 c, .int .u8 d, .int .u8 48, .int .u8 48], .agg #[.int .u8 a, .int .u8 b, .int .u8 c, .int .u8 d, .int .u8 57, .int .u8 57]]) ∧ Below w.heap.size w w' := by
  have hcp : ∀ (W : World) (B : Nat), (W.cell? ⟨B, 0, none⟩).isSome = true → (W.cell? ⟨B, 1, none⟩).isSome = true → (W.cell? ⟨B, 2, none⟩).isSome = true → (W.cell? ⟨B, 3, none⟩).isSome = true → W.frozen? ⟨B, 0, none⟩ = false → W.frozen? ⟨B, 1, none⟩ = false → W.frozen? ⟨B, 2, none⟩ = false → W.frozen? ⟨B, 3, none⟩ = false → 
     (Builtin.copy_ #[45, 9] 3 #[.slice (some ⟨B, 0, none⟩) 6 6, .string (strOfNums [a, b, c, d])]).run Yba.prog W = .ok (.int .i64 4) ((((W.setCell ⟨B, 0, none⟩ (.int .u8 a)).setCell ⟨B, 1, none⟩ (.int .u8 b)).setCell ⟨B, 2, none⟩ (.int .u8 c)).setCell ⟨B, 3, none⟩ (.int .u8 d)) := by
    intro W B c0 c1 c2 c3 f0 f1 f2 f3
    have := copy_str W B [a, b, c, d] (by simp; omega) (by simp) (by intro j hj; match j, hj with | 0, _ => exact c0 | 1, _ => exact c1 | 2, _ => exact c2 | 3, _ => exact c3) (by intro j hj; match j, hj with | 0, _ => exact f0 | 1, _ => exact f1 | 2, _ => exact f2 | 3, _ => exact f3)
    simpa [World.setCells] using this
  go_enter Yba.func11, Yba.ntmps11
  go_wp2
  go_region
  go_wp2
  go_region
  go_wp2
  refine wp_loop_rounds 3 ?_
  rw [rounds_succ]
  go_wp2
  rw [rounds_succ]
  go_wp2
  rw [rounds_succ]
  go_wp2
  exact bodyPost_ret (v := .tuple #[.agg #[.int .u8 a, .int .u8 b, .int .u8 c, .int .u8 d, .int .u8 48, .int .u8 48], .agg #[.int .u8 a, .int .u8 b, .int .u8 c, .int .u8 d, .int .u8 57, .int .u8 57]]) (by simp [results, Yba.results11, go_sem]) rfl ⟨rfl, ((((Below.refl _ _).alloc (Nat.le_refl _) _).alloc (by simp) _).alloc (by simp; omega) _).drew.drew⟩

set_option maxHeartbeats 400000 in
theorem span6 (a b c d e f : Int) (ha : 48 ≤ a ∧ a ≤ 57) (hb : 48 ≤ b ∧ b ≤ 57) (hc : 48 ≤ c ∧ c ≤ 57) (hd : 48 ≤ d ∧ d ≤ 57) (he : 48 ≤ e ∧ e ≤ 57) (hf : 48 ≤ f ∧ f ≤ 57) (w : World) :
    Calls Yba.prog 11 #[.agg #[.string (strOfNums [a, b, c, d, e, f])]] w fun e_ w' => e_ = .returned (.tuple #[.agg #[.int .u8 a, .int .u8 b, .int .u8 c, .int .u8 d, .int .u8 e, .int .u8 f], .agg #[.int .u8 a, .int .u8 b, .int .u8 c, .int .u8 d, .int .u8 e, .int .u8 f]]) ∧ Below w.heap.size w w' := by
  have hcp : ∀ (W : World) (B : Nat), (W.cell? ⟨B, 0, none⟩).isSome = true → (W.cell? ⟨B, 1, none⟩).isSome = true → (W.cell? ⟨B, 2, none⟩).isSome = true → (W.cell? ⟨B, 3, none⟩).isSome = true → (W.cell? ⟨B, 4, none⟩).isSome = true → (W.cell? ⟨B, 5, none⟩).isSome = true → W.frozen? ⟨B, 0, none⟩ = false → W.frozen? ⟨B, 1, none⟩ = false → W.frozen? ⟨B, 2, none⟩ = false → W.frozen? ⟨B, 3, none⟩ = false → W.frozen? ⟨B, 4, none⟩ = false → W.frozen? ⟨B, 5, none⟩ = false → 
     (Builtin.copy_ #[45, 9] 3 #[.slice (some ⟨B, 0, none⟩) 6 6, .string (strOfNums [a, b, c, d, e, f])]).run Yba.prog W = .ok (.int .i64 6) ((((((W.setCell ⟨B, 0, none⟩ (.int .u8 a)).setCell ⟨B, 1, none⟩ (.int .u8 b)).setCell ⟨B, 2, none⟩ (.int .u8 c)).setCell ⟨B, 3, none⟩ (.int .u8 d)).setCell ⟨B, 4, none⟩ (.int .u8 e)).setCell ⟨B, 5, none⟩ (.int .u8 f)) := by
    intro W B c0 c1 c2 c3 c4 c5 f0 f1 f2 f3 f4 f5
    have := copy_str W B [a, b, c, d, e, f] (by simp; omega) (by simp) (by intro j hj; match j, hj with | 0, _ => exact c0 | 1, _ => exact c1 | 2, _ => exact c2 | 3, _ => exact c3 | 4, _ => exact c4 | 5, _ => exact c5) (by intro j hj; match j, hj with | 0, _ => exact f0 | 1, _ => exact f1 | 2, _ => exact f2 | 3, _ => exact f3 | 4, _ => exact f4 | 5, _ => exact f5)
    simpa [World.setCells] using this
  go_enter Yba.func11, Yba.ntmps11
  go_wp2
  go_region
  go_wp2
  go_region
  go_wp2
  refine wp_loop_rounds 1 ?_
  rw [rounds_succ]
  go_wp2
  exact bodyPost_ret (v := .tuple #[.agg #[.int .u8 a, .int .u8 b, .int .u8 c, .int .u8 d, .int .u8 e, .int .u8 f], .agg #[.int .u8 a, .int .u8 b, .int .u8 c, .int .u8 d, .int .u8 e, .int .u8 f]]) (by simp [results, Yba.results11, go_sem]) rfl ⟨rfl, ((((Below.refl _ _).alloc (Nat.le_refl _) _).alloc (by simp) _).alloc (by simp; omega) _).drew.drew⟩

/-- Six digits that write n. -/
def Dig6 (a b c d e f n : Int) : Prop := (48 ≤ a ∧ a ≤ 57) ∧ (48 ≤ b ∧ b ≤ 57) ∧ (48 ≤ c ∧ c ≤ 57) ∧ (48 ≤ d ∧ d ≤ 57) ∧ (48 ≤ e ∧ e ≤ 57) ∧ (48 ≤ f ∧ f ≤ 57) ∧ num6 a b c d e f = n

def SpanEnd (lo hi : Int) (W : World) (e : Ending) (w' : World) : Prop :=
  ∃ a b c d f g a' b' c' d' f' g' : Int, e = .returned (.tuple #[.agg #[.int .u8 a, .int .u8 b, .int .u8 c, .int .u8 d, .int .u8 f, .int .u8 g], .agg #[.int .u8 a', .int .u8 b', .int .u8 c', .int .u8 d', .int .u8 f', .int .u8 g']]) ∧
    Dig6 a b c d f g lo ∧ Dig6 a' b' c' d' f' g' hi ∧ Below W.heap.size W w'

def IsCode (s : ByteArray) (lo hi : Int) : Prop := ∀ W, Calls Yba.prog 11 #[.agg #[.string s]] W (SpanEnd lo hi W)

theorem isCode2 (x : Int) (h0 : 0 ≤ x) (h1 : x < 100) : IsCode (strOfNums (dig 2 x)) (x * 10000) ((x + 1) * 10000 - 1) := by
  intro W
  refine (span2 (48 + x / 10 % 10) (48 + x % 10) (by omega) (by omega) W).mono ?_
  rintro e w' ⟨rfl, hb⟩
  refine ⟨_, _, _, _, _, _, _, _, _, _, _, _, rfl, ?_, ?_, hb⟩
  · refine ⟨by omega, by omega, by omega, by omega, by omega, by omega, ?_⟩
    unfold num6; omega
  · refine ⟨by omega, by omega, by omega, by omega, by omega, by omega, ?_⟩
    unfold num6; omega

theorem isCode4 (x : Int) (h0 : 0 ≤ x) (h1 : x < 10000) : IsCode (strOfNums (dig 4 x)) (x * 100) ((x + 1) * 100 - 1) := by
  intro W
  refine (span4 (48 + x / 10 / 10 / 10 % 10) (48 + x / 10 / 10 % 10) (48 + x / 10 % 10) (48 + x % 10) (by omega) (by omega) (by omega) (by omega) W).mono ?_
  rintro e w' ⟨rfl, hb⟩
  refine ⟨_, _, _, _, _, _, _, _, _, _, _, _, rfl, ?_, ?_, hb⟩
  · refine ⟨by omega, by omega, by omega, by omega, by omega, by omega, ?_⟩
    unfold num6; omega
  · refine ⟨by omega, by omega, by omega, by omega, by omega, by omega, ?_⟩
    unfold num6; omega

theorem isCode6 (x : Int) (h0 : 0 ≤ x) (h1 : x < 1000000) : IsCode (strOfNums (dig 6 x)) (x * 1) ((x + 1) * 1 - 1) := by
  intro W
  refine (span6 (48 + x / 10 / 10 / 10 / 10 / 10 % 10) (48 + x / 10 / 10 / 10 / 10 % 10) (48 + x / 10 / 10 / 10 % 10) (48 + x / 10 / 10 % 10) (48 + x / 10 % 10) (48 + x % 10) (by omega) (by omega) (by omega) (by omega) (by omega) (by omega) W).mono ?_
  rintro e w' ⟨rfl, hb⟩
  refine ⟨_, _, _, _, _, _, _, _, _, _, _, _, rfl, ?_, ?_, hb⟩
  · refine ⟨by omega, by omega, by omega, by omega, by omega, by omega, ?_⟩
    unfold num6; omega
  · refine ⟨by omega, by omega, by omega, by omega, by omega, by omega, ?_⟩
    unfold num6; omega

end Go.Proofs.Ybulkdfy
