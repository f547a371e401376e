/-
  GREAT ARRAYS IN A WALK: a variable of an array or struct type of thousands of cells: made, loaded whole, compared whole. The cells stand under a name ('arr', 'z27', 'z24') that the walk does not lay open.
-/
import Derived.Test.YbulkanoyRecord
import Derived.ChangeKeysEq
import Derived.Laws.StructEq
namespace Go.Proofs.Ybulkanoy
open Go.RowKit
set_option linter.unusedVariables false

/-- n cells, by their index. -/
def arr (n : Nat) (f : Nat → Value) : Array Value := ((List.range n).map f).toArray
theorem arr_size (n : Nat) (f : Nat → Value) : (arr n f).size = n := by simp [arr]
theorem arr_get (n : Nat) (f : Nat → Value) (i : Nat) (h : i < n) : (arr n f)[i]? = some (f i) := by simp [arr, h]

/-! ### the laws on one operation, of no program -/
section
variable {P : Program} {ops : Array Oper} {rest : List Oper} {o : Oper} {a : Act} {w : World} {Q : Exit → Act → World → Prop}

theorem wpList_alloc_agg (hgd : o.guard = none) (ty : TypeId) (ho : o.op = .alloc ty) (cs : Array Value) (hz : ∀ w, (zeroValue ty).run P w = .ok (.agg cs) w)
    (h : wpList P ops Q rest (a.put o.dst (.pointer (some ⟨w.heap.size, 0, none⟩))) (w.alloc (.cells cs ty))) : wpList P ops Q (o :: rest) a w := by
  refine wpList_plain hgd fun K hK => ?_
  unfold Oper.wp execOp
  simp only [ho, Instr.alloc, Sem.run_bind, Sem.run_pure, hz, Result.andThen_ok, newVar, newRow, Value.cells]
  exact hK _ _ h

theorem wpList_load_agg (hgd : o.guard = none) (ty : TypeId) (x : Operand) (ho : o.op = .load ty x) (ad : Addr) (hx : a.eval x = .pointer (some ad)) (cs : Array Value) (hl : (loadVar ty ad).run P w = .ok (.agg cs) w)
    (h : wpList P ops Q rest (a.put o.dst (.agg cs)) w) : wpList P ops Q (o :: rest) a w := by
  refine wpList_plain hgd fun K hK => ?_
  unfold Oper.wp execOp
  simp only [ho, hx, Instr.loadAt, Instr.sureAddr, Sem.run_bind, Sem.run_pure, Result.andThen_ok, hl]
  exact hK _ _ h

theorem wpList_eql_agg (hgd : o.guard = none) (ty ut : TypeId) (x y : Operand) (ho : o.op = .binOp .eql ty x y ut) (xs ys : Array Value) (hx : a.eval x = .agg xs) (hy : a.eval y = .agg ys)
    (hq : P.eqGuardType P.depth ty = false) (r : Bool) (he : (Op.equalIn 10000 ty (.agg xs) (.agg ys)).run P w = .ok r w)
    (h : wpList P ops Q rest (a.put o.dst (.bool r)) w) : wpList P ops Q (o :: rest) a w := by
  refine wpList_plain hgd fun K hK => ?_
  unfold Oper.wp execOp
  simp only [ho, hx, hy, Sem.run_bind, Sem.run_pure, Result.andThen_ok, run_eqGuard_agg _ _ _ _ _ _ _ hq, run_eql_struct, he]
  exact hK _ _ h
end

/-! ### at this program -/
theorem load_agg (ty : TypeId) (n b : Nat) (f : Nat → Value) (w : World) (ha : (isAgg ty).run Yba.prog w = .ok true w) (hs : (sizeOf ty).run Yba.prog w = .ok n w) (hc : ∀ i, i < n → w.cell? ⟨b, i, none⟩ = some (f i)) :
    (loadVar ty ⟨b, 0, none⟩).run Yba.prog w = .ok (.agg (arr n f)) w := by
  have hl : (loadCells ⟨b, 0, none⟩ ((List.range n).map f).length).run Yba.prog w = .ok ((List.range n).map f).toArray w :=
    run_loadCells_list (P := Yba.prog) w ⟨b, 0, none⟩ _ (fun j v hv => by
      rw [Addr.add_lit, Nat.zero_add]
      rw [List.getElem?_map] at hv
      by_cases hj : j < n
      · rw [List.getElem?_range hj] at hv
        simp only [Option.map_some, Option.some.injEq] at hv
        rw [hc j hj, hv]
      · rw [List.getElem?_eq_none (by simp; omega)] at hv
        cases hv)
  rw [List.length_map, List.length_range] at hl
  simp only [loadVar, Sem.run_bind, ha, Result.andThen_ok, if_true, hs, hl, Sem.run_pure]
  rfl

theorem part_int (xs : Array Value) (i : Nat) (v : Value) (t : TypeId) (w : World) (ha : (isAgg t).run Yba.prog w = .ok false w) (h : xs[i]? = some v) : (part t xs i).run Yba.prog w = .ok v w := by
  simp only [part, Sem.run_bind, ha, Result.andThen_ok, Bool.false_eq_true, if_false, h, Sem.run_pure]

theorem eqItems_true (d : Nat) (xs ys : Array Value) (w : World) : ∀ (is : List Nat), (∀ i ∈ is, ∃ c, xs[i]? = some (.int .u64 c) ∧ ys[i]? = some (.int .u64 c)) → (Op.eqItems (d + 1) 23 1 xs ys is).run Yba.prog w = .ok true w
  | [], _ => by simp [Op.eqItems]
  | i :: is, h => by
    obtain ⟨c, h1, h2⟩ := h i (by simp)
    have ih := eqItems_true d xs ys w is (fun j hj => h j (by simp [hj]))
    rw [← Nat.mul_one i] at h1 h2
    simp only [Op.eqItems, Sem.run_bind, part_int xs _ _ 23 w (Yba.isAgg23 w) h1, part_int ys _ _ 23 w (Yba.isAgg23 w) h2, Result.andThen_ok, run_equalIn_int w d 23 .u64 .u64 c c Yba.underlying23]
    simpa using ih

theorem cells23 : Yba.prog.cellsOf 23 = 1 := by kernel_rfl
theorem cells24 : Yba.prog.cellsOf 24 = 7296 := by kernel_rfl

/-- Two arrays of counts with the same numbers are equal. -/
theorem equal24 (d : Nat) (xs ys : Array Value) (C : Nat → Int) (w : World) (hx : ∀ i, i < 7296 → xs[i]? = some (.int .u64 (C i))) (hy : ∀ i, i < 7296 → ys[i]? = some (.int .u64 (C i))) :
    (Op.equalIn (d + 2) 24 (.agg xs) (.agg ys)).run Yba.prog w = .ok true w := by
  rw [run_equalIn_array w (d + 1) xs ys Yba.underlying24 Yba.type23, cells23]
  exact eqItems_true d xs ys w _ (fun i hi => ⟨C i, hx i (List.mem_range.1 hi), hy i (List.mem_range.1 hi)⟩)

theorem fields27 : Yba.prog.underlying 27 = some (.struct (Yba.prog.fieldsOf 27)) := by
  unfold Program.fieldsOf
  rw [Yba.underlying27]

theorem part24 (xs : Array Value) (w : World) : (part 24 xs 0).run Yba.prog w = .ok (.agg (xs.extract 0 (0 + 7296))) w := by
  simp only [part, Sem.run_bind, Yba.isAgg24 w, Result.andThen_ok, if_true, Yba.sizeOf24 w, Sem.run_pure]

theorem part24_get (xs : Array Value) (v : Value) (hm : xs[7297]? = some v) (i : Nat) (hi : i < 7296) : (xs.extract 0 (0 + 7296))[i]? = xs[i]? := by
  have hsz : 7297 < xs.size := (Array.getElem?_eq_some_iff.1 hm).1
  rw [Array.getElem?_extract, if_pos (by omega), Nat.zero_add]

theorem eqFields27 (d : Nat) (xs ys : Array Value) (N M : Int) (w : World) (hp : (part 24 xs 0).run Yba.prog w = .ok (.agg ys) w) (h0 : (Op.equalIn d 24 (.agg ys) (.agg ys)).run Yba.prog w = .ok true w)
    (h1 : (part 23 xs 7296).run Yba.prog w = .ok (.int .u64 N) w) (h2 : (part 25 xs 7297).run Yba.prog w = .ok (.int .i64 M) w)
    (e1 : (Op.equalIn d 23 (.int .u64 N) (.int .u64 N)).run Yba.prog w = .ok (N == N) w) (e2 : (Op.equalIn d 25 (.int .i64 M) (.int .i64 M)).run Yba.prog w = .ok (M == M) w) :
    (Op.eqFields d xs xs (Yba.prog.fieldsOf 27).toList).run Yba.prog w = .ok true w := by
  simp only [Program.fieldsOf, Yba.underlying27, Op.eqFields, Sem.run_ite, Sem.run_bind, hp, h0, h1, h2, e1, e2, Result.andThen_ok]
  simp

/-- Two histograms with the same numbers are equal. -/
theorem equal27 (d : Nat) (xs : Array Value) (C : Nat → Int) (N M : Int) (w : World) (hx : ∀ i, i < 7296 → xs[i]? = some (.int .u64 (C i))) (hn : xs[7296]? = some (.int .u64 N)) (hm : xs[7297]? = some (.int .i64 M)) :
    (Op.equalIn (d + 3) 27 (.agg xs) (.agg xs)).run Yba.prog w = .ok true w := by
  rw [run_equalIn_struct w (d + 2) 27 _ _ fields27 Yba.stoodInHeld27]
  exact eqFields27 (d + 2) xs _ N M w (part24 xs w) (equal24 d _ _ C w (fun i hi => (part24_get xs _ hm i hi).trans (hx i hi)) (fun i hi => (part24_get xs _ hm i hi).trans (hx i hi)))
    (part_int xs 7296 _ 23 w (Yba.isAgg23 w) hn) (part_int xs 7297 _ 25 w (Yba.isAgg25 w) hm) (run_equalIn_int (P := Yba.prog) w (d + 1) 23 .u64 .u64 N N Yba.underlying23) (run_equalIn_int (P := Yba.prog) w (d + 1) 25 .i64 .i64 M M Yba.underlying25)

/-! ### the zero values -/
def isU : Value → Bool
  | .int .u64 n => n == 0
  | _ => false
def isI : Value → Bool
  | .int .i64 n => n == 0
  | _ => false
def chk24 : Nat → List Value → Bool
  | 0, [] => true
  | n + 1, v :: l => isU v && chk24 n l
  | _, _ => false
def cellsOfZero (t : TypeInfo) : List Value := match t.zero with | some (.agg cs) => cs.toList | _ => []

theorem isU_eq {v : Value} (h : isU v = true) : v = .int .u64 0 := by
  unfold isU at h
  split at h
  · simp at h; rw [h]
  · cases h

theorem chk24_all : ∀ (n : Nat) (l : List Value), chk24 n l = true → l = List.replicate n (.int .u64 0)
  | 0, [], _ => rfl
  | 0, _ :: _, h => by simp [chk24] at h
  | n + 1, [], h => by simp [chk24] at h
  | n + 1, v :: l, h => by
    simp only [chk24, Bool.and_eq_true] at h
    rw [isU_eq h.1, chk24_all n l h.2, List.replicate_succ]

def chk27 : Nat → List Value → Bool
  | 0, [v] => isI v
  | n + 1, v :: l => isU v && chk27 n l
  | _, _ => false
theorem isI_eq {v : Value} (h : isI v = true) : v = .int .i64 0 := by
  unfold isI at h
  split at h
  · simp at h; rw [h]
  · cases h
theorem chk27_all : ∀ (n : Nat) (l : List Value), chk27 n l = true → l = List.replicate n (.int .u64 0) ++ [.int .i64 0]
  | 0, [], h => by simp [chk27] at h
  | 0, [v], h => by simp only [chk27] at h; rw [isI_eq h]; rfl
  | 0, _ :: _ :: _, h => by simp [chk27] at h
  | n + 1, [], h => by simp [chk27] at h
  | n + 1, v :: l, h => by
    simp only [chk27, Bool.and_eq_true] at h
    rw [isU_eq h.1, chk27_all n l h.2, List.replicate_succ]
    rfl

theorem zero24_chk : chk24 7296 (cellsOfZero Yba.t24) = true := by kernel_rfl
theorem zero27_chk : chk27 7297 (cellsOfZero Yba.t27) = true := by kernel_rfl
theorem zero24_is : Yba.t24.zero = some (.agg (cellsOfZero Yba.t24).toArray) := by kernel_rfl
theorem zero27_is : Yba.t27.zero = some (.agg (cellsOfZero Yba.t27).toArray) := by kernel_rfl

theorem zeros_arr (n : Nat) : List.replicate n (Value.int .u64 0) = (List.range n).map (fun _ => Value.int .u64 0) := by
  apply List.ext_getElem <;> simp
theorem zeros_hist (n : Nat) (hn : n = 7297) : List.replicate n (Value.int .u64 0) ++ [Value.int .i64 0] = (List.range (n + 1)).map (hist (fun _ => 0) 0 0) := by
  apply List.ext_getElem
  · simp
  · intro j h1 h2
    have hj : j < n + 1 := by simpa using h2
    simp only [List.getElem_append, List.length_replicate, List.getElem_replicate, List.getElem_map, List.getElem_range, List.getElem_singleton, hist]
    by_cases h3 : j < n
    · by_cases h4 : j < 7296
      · simp [h3, h4]
      · have h5 : j = 7296 := by omega
        have h6 : 7296 < n := by omega
        simp [h5, h6]
    · have h5 : ¬ j < 7296 := by omega
      have h6 : ¬ j = 7296 := by omega
      simp [h3, h5, h6]

theorem zero24 (w : World) : (zeroValue 24).run Yba.prog w = .ok (.agg (arr 7296 (fun _ => .int .u64 0))) w := by
  have h := chk24_all _ _ zero24_chk
  rw [zeros_arr] at h
  have e : Yba.t24.zero = some (.agg (arr 7296 (fun _ => .int .u64 0))) := by rw [zero24_is, h]; rfl
  simp only [zeroValue, Sem.run_bind, Yba.typeInfo24 w, Result.andThen_ok, e, Sem.run_pure]
theorem zero27 (w : World) : (zeroValue 27).run Yba.prog w = .ok (.agg (arr 7298 (hist (fun _ => 0) 0 0))) w := by
  have h := chk27_all _ _ zero27_chk
  rw [zeros_hist 7297 rfl] at h
  have e : Yba.t27.zero = some (.agg (arr 7298 (hist (fun _ => 0) 0 0))) := by rw [zero27_is, h]; rfl
  simp only [zeroValue, Sem.run_bind, Yba.typeInfo27 w, Result.andThen_ok, e, Sem.run_pure]

/-- A new variable, told by the index. -/
theorem rowIs_arr (w : World) (n : Nat) (t : TypeId) (f : Nat → Value) : (w.alloc (.cells (arr n f) t)).rowIs w.heap.size t n f := by
  have h := World.rowIs_alloc w (arr n f) t f (fun i hi => arr_get n f i (by rwa [arr_size] at hi))
  rwa [arr_size] at h

end Go.Proofs.Ybulkanoy
