/-
  'append(s, make([]T, m)...)', which the model carries out as ONE operation (append with a count, m new zero elements): ITS LAW, for a slice that the call itself owns, of elements of one cell. No Go program in sight.
-/
import Derived.WalkKit
import Derived.Deep.RegionLaw
namespace Go.Proofs.Ybulkanmu
open Go.RowKit

theorem zeroCells_one (z : Value) (m : Nat) : Builtin.zeroCells #[z] m = (List.replicate m z).toArray := by
  apply Array.ext
  · simp [Builtin.zeroCells]
  · intro j h1 h2
    simp [Builtin.zeroCells, Nat.mod_one]

section
variable {P : Program} (w : World)

/-- It grows: a new row. -/
theorem run_append_zeros_grow (t u ty e : TypeId) (i : TypeInfo) (z : Value) (kd : IntKind) (ht : P.underlying t = some (.slice e)) (hu : P.underlying u = some (.int kd)) (hi : P.info? e = some i) (hz : i.zero = some z)
    (hsize : i.size = 1) (hzc : z.cells = #[z]) (ao : Option Addr) (n cap : Nat) (olds : List Value)
    (hold : (Builtin.firstCells 1 n (.slice ao n cap)).run P w.drew = .ok olds.toArray w.drew)
    (m : Nat) (hm : 0 < m) (hg : cap < n + m) (h63 : ((n + m : Nat) : Int) ≤ 9223372036854775807) (hmb : (m : Int) * i.bytes ≤ 281474976710656) (hfit : Builtin.nextslicecap (n + m) cap * i.bytes ≤ 281474976710656) :
    (Builtin.append_ #[t, u] ty #[.slice ao n cap, .int .i64 (m : Int)]).run P w =
      .ok (.slice (some ⟨w.heap.size, 0, none⟩) (n + m) (grownCap w (n + m) cap e))
        (w.drew.alloc (.cells (olds ++ List.replicate m z ++ List.replicate (grownCap w (n + m) cap e - (n + m)) z).toArray e)) := by
  have hn : ¬ (n + m ≤ cap) := by omega
  have h63' : ¬ (9223372036854775807 < ((n : Int) + (m : Int))) := by omega
  have h48' : ¬ (281474976710656 < Builtin.nextslicecap (n + m) cap * i.bytes) := by omega
  have hwr : IntKind.i64.wrap (m : Int) = (m : Int) := by rw [IntKind.wrap_i64]; omega
  have hneg : ¬ ((m : Int) < 0) := by omega
  have hmb' : ¬ (281474976710656 < (m : Int) * (i.bytes : Int)) := by omega
  have hm0 : m ≠ 0 := by omega
  simp [Builtin.append_, run_underlying ht, run_underlying hu, sizeOf, typeInfo, zeroValue, hi, hz, hsize, hzc, hwr, hneg, hmb', hn, h63', h48', hm0, asInt, asIntOf, Question.forced, hold, newRow, grownCap, zeroCells_one]
  congr 2
  apply Array.ext'
  simp

/-- There is room: the row's own spare cells are set to zero. -/
theorem run_append_zeros_room (t u ty e : TypeId) (i : TypeInfo) (z : Value) (kd : IntKind) (ht : P.underlying t = some (.slice e)) (hu : P.underlying u = some (.int kd)) (hi : P.info? e = some i) (hz : i.zero = some z)
    (hsize : i.size = 1) (hzc : z.cells = #[z]) (hz1 : z.oneCell' = true) (g n cap : Nat) (cur : Array Value) (hg : w.heap[g]? = some (.cells cur e (0, 0)))
    (m : Nat) (hm : 0 < m) (hroom : n + m ≤ cap) (hfit : n + m ≤ cur.size) (h63 : ((n + m : Nat) : Int) ≤ 9223372036854775807) (hmb : (m : Int) * i.bytes ≤ 281474976710656) :
    (Builtin.append_ #[t, u] ty #[.slice (some ⟨g, 0, none⟩) n cap, .int .i64 (m : Int)]).run P w =
      .ok (.slice (some ⟨g, 0, none⟩) (n + m) cap) (w.setRow g (cur.toList.take n ++ List.replicate m z ++ cur.toList.drop (n + m)).toArray) := by
  have hwr : IntKind.i64.wrap (m : Int) = (m : Int) := by rw [IntKind.wrap_i64]; omega
  have hneg : ¬ ((m : Int) < 0) := by omega
  have hmb' : ¬ (281474976710656 < (m : Int) * (i.bytes : Int)) := by omega
  have hm0 : m ≠ 0 := by omega
  have hst := run_storeCells_at P g n e (List.replicate m z) 0 cur w hg (by simpa using hfit) (fun u hu => by rw [(List.mem_replicate.1 hu).2]; exact hz1)
  simp only [Nat.add_zero, List.length_replicate] at hst
  simp [Builtin.append_, run_underlying ht, run_underlying hu, sizeOf, typeInfo, zeroValue, hi, hz, hsize, hzc, hwr, hneg, hmb', hroom, hm0, asInt, asIntOf, zeroCells_one, Addr.add_lit, hst]

/-- BOTH, for a slice that the call owns: the value is written out; which block it lies in is told as far as it is known. -/
theorem run_append_zeros (base : Nat) (t u ty e : TypeId) (i : TypeInfo) (z : Value) (bytes : Nat) (kd : IntKind) (ht : P.underlying t = some (.slice e)) (hu : P.underlying u = some (.int kd)) (hi : P.info? e = some i) (hz : i.zero = some z)
    (hsize : i.size = 1) (hby : i.bytes = bytes) (hzc : z.cells = #[z]) (hz1 : z.oneCell' = true)
    (ao : Option Addr) (n cap : Nat) (xs : List Value) (hown : w.ownsRow base e 1 (.slice ao n cap) n xs)
    (m : Nat) (hm : 0 < m) (h63 : n + m ≤ maxLen) (hbytes : (n + m) * bytes ≤ 140737488355328) (hbase : base ≤ w.heap.size) :
    ∃ g cap' w', (Builtin.append_ #[t, u] ty #[.slice ao n cap, .int .i64 (m : Int)]).run P w = .ok (.slice (some ⟨g, 0, none⟩) (n + m) cap') w' ∧
      w'.ownsRow base e 1 (.slice (some ⟨g, 0, none⟩) (n + m) cap') (n + m) (xs ++ List.replicate m z) ∧ w.grownBy w' (Value.slice ao n cap).ownBlock ∧
      ((Value.slice ao n cap).ownBlock = some g ∨ w.heap.size ≤ g) := by
  subst hby
  have hsmall : n + m ≤ 9223372036854775807 := by simp only [maxLen] at h63; omega
  have hlen : (xs ++ List.replicate m z).length = (n + m) * 1 := by rw [List.length_append, hown.1, List.length_replicate]; omega
  have hmb : (m : Int) * i.bytes ≤ 281474976710656 := by
    have h1 : m * i.bytes ≤ (n + m) * i.bytes := Nat.mul_le_mul_right _ (by omega)
    have h2 : ((m * i.bytes : Nat) : Int) = (m : Int) * i.bytes := by simp
    omega
  have grown : cap < n + m → (Builtin.firstCells 1 n (.slice ao n cap)).run P w.drew = .ok xs.toArray w.drew → 
      ∃ g cap' w', (Builtin.append_ #[t, u] ty #[.slice ao n cap, .int .i64 (m : Int)]).run P w = .ok (.slice (some ⟨g, 0, none⟩) (n + m) cap') w' ∧
      w'.ownsRow base e 1 (.slice (some ⟨g, 0, none⟩) (n + m) cap') (n + m) (xs ++ List.replicate m z) ∧ w.grownBy w' (Value.slice ao n cap).ownBlock ∧
      ((Value.slice ao n cap).ownBlock = some g ∨ w.heap.size ≤ g) := by
    intro hfull hold
    have hge := grownCap_ge w (n + m) cap e
    have hcm : grownCap w (n + m) cap e ≤ maxLen := grownCap_le_maxLen w (n + m) cap e h63
    refine ⟨_, _, _, run_append_zeros_grow w t u ty e i z kd ht hu hi hz hsize hzc ao n cap xs hold m hm hfull (by omega) hmb (growslice_fits hfull hbytes), ?_, ⟨rfl, rfl, rfl, by simp, fun k hk _ => Below.heap_alloc w.drew _ k hk⟩, .inr (Nat.le_refl _)⟩
    refine ⟨hlen, .inr ⟨w.heap.size, _, _, rfl, hbase, heap_alloc_new w.drew _, hge, hcm, ?_, ?_⟩⟩
    · have := hown.1
      simp only [List.size_toArray, List.length_append, List.length_replicate]
      omega
    · show List.take ((n + m) * 1) (xs ++ List.replicate m z ++ _) = _
      rw [← hlen]
      exact List.take_left
  rcases hown.2 with ⟨hv, h0⟩ | ⟨g, cap', cur, hv, hbg, hg, hnc, hcm, hcs, htake⟩
  · simp only [Value.slice.injEq] at hv
    obtain ⟨rfl, _, rfl⟩ := hv
    subst h0
    have hx : xs = [] := List.eq_nil_of_length_eq_zero (by simpa using hown.1)
    subst hx
    exact grown (by omega) (by simp [Builtin.firstCells])
  · simp only [Value.slice.injEq] at hv
    obtain ⟨rfl, _, rfl⟩ := hv
    by_cases hroom : n + m ≤ cap
    · refine ⟨_, _, _, run_append_zeros_room w t u ty e i z kd ht hu hi hz hsize hzc hz1 g n cap cur hg m hm hroom (by omega) (by omega) hmb, ⟨hlen, .inr ⟨g, cap, _, rfl, hbg, setRow_heap w g cur _ e _ hg, hroom, hcm, ?_, ?_⟩⟩, ⟨rfl, rfl, rfl, by simp, fun k _ hk => setRow_other w g k _ (fun e => hk (by simp [Value.ownBlock, e]))⟩, .inl rfl⟩
      · simp only [List.size_toArray, List.length_append, List.length_take, List.length_drop, List.length_replicate, Array.length_toList]
        omega
      · rw [Nat.mul_one] at htake
        rw [htake, ← hlen]
        exact List.take_left
    · refine grown (by omega) (run_firstCells_some (P := P) w.drew 1 n ⟨g, 0, none⟩ n cap xs hown.1 ?_)
      exact hown.cells (g := g) rfl

end

/-- THE SAME AS ONE STEP OF A REGION THAT DRAWS ITS ORDER. -/
theorem step_append_zeros {P : Program} {ops : Array Oper} {o : Oper} {a : Act} {w : World} {K : Act → World → Prop} {Q : Exit → Act → World → Prop} {E : Prop}
    (hgd : o.guard = none) (s x : Operand) (t u : TypeId) (hop : o.op = Op.call { callee := Callee.builtin Builtin.append, args := #[s, x], argTypes := #[t, u] })
    (base : Nat) (e : TypeId) (i : TypeInfo) (z : Value) (bytes : Nat) (kd : IntKind) (ht : P.underlying t = some (.slice e)) (hu : P.underlying u = some (.int kd)) (hi : P.info? e = some i) (hz : i.zero = some z)
    (hsize : i.size = 1) (hby : i.bytes = bytes) (hzc : z.cells = #[z]) (hz1 : z.oneCell' = true)
    (ao : Option Addr) (n cap : Nat) (xs : List Value) (hs : a.eval s = .slice ao n cap) (hown : w.ownsRow base e 1 (.slice ao n cap) n xs)
    (m : Nat) (M : Int) (hx : a.eval x = .int .i64 M) (hM : M = (m : Int)) (hm : 0 < m) (h63 : n + m ≤ maxLen) (hbytes : (n + m) * bytes ≤ 140737488355328) (hbase : base ≤ w.heap.size)
    (hK : ∀ g cap' w', w'.ownsRow base e 1 (.slice (some ⟨g, 0, none⟩) (n + m) cap') (n + m) (xs ++ List.replicate m z) → w.grownBy w' (Value.slice ao n cap).ownBlock →
      ((Value.slice ao n cap).ownBlock = some g ∨ w.heap.size ≤ g) → K (a.put o.dst (.slice (some ⟨g, 0, none⟩) (n + m) cap')) w') :
    if Region.wanted o (yielded ops a.tmps) = true then Oper.wp P o a w K Q else E := by
  have hw : Region.wanted o (yielded ops a.tmps) = true := by simp [Region.wanted, hgd]
  rw [if_pos hw]
  subst hM
  obtain ⟨g, cap', w', hrun, r1, r2, r3⟩ := run_append_zeros (P := P) w base t u o.type e i z bytes kd ht hu hi hz hsize hby hzc hz1 ao n cap xs hown m hm h63 hbytes hbase
  unfold Oper.wp
  simp [execOp, hop, resolve, invoke, builtin, hs, hx, hrun, Result.andThen]
  exact hK g cap' w' r1 r2 r3

end Go.Proofs.Ybulkanmu
