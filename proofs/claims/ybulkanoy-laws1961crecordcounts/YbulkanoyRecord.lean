/-
  THE CONTRACTS of (*Histogram).Record and Count. A histogram's block is told by plain functions: the counts, their number, the greatest.
-/
import Derived.Test.YbulkanoyBucket
import Derived.Deep.OwnRows
import Derived.Deep.RegionWith
namespace Go.Proofs.Ybulkanoy
open Go.RowKit
set_option linter.unusedVariables false

/-- The cells of a Histogram: the counts, their number, the greatest. -/
def hist (C : Nat → Int) (N M : Int) : Nat → Value := fun i => if i < 7296 then .int .u64 (C i) else if i = 7296 then .int .u64 N else .int .i64 M
def bump (C : Nat → Int) (i : Nat) : Nat → Int := fun j => if j = i then C j + 1 else C j

/-- No block has turned but b. -/
structure Wrote (b : Nat) (w w' : World) : Prop where
  os : w'.os = w.os
  tape : w'.tape = w.tape
  output : w'.output = w.output
  size : w'.heap.size = w.heap.size
  block : ∀ k, k ≠ b → w'.heap[k]? = w.heap[k]?

theorem hist_count {C : Nat → Int} {N M : Int} (i : Nat) (h : i < 7296) : hist C N M i = .int .u64 (C i) := by simp [hist, h]
theorem hist_num {C : Nat → Int} {N M : Int} : hist C N M 7296 = .int .u64 N := by simp [hist]
theorem hist_max {C : Nat → Int} {N M : Int} : hist C N M 7297 = .int .i64 M := by simp [hist]

theorem hist_turn (C : Nat → Int) (N M M' : Int) (i j : Nat) (hi : i < 7296) (hj : j < 7298) :
    (if j = 7297 then Value.int .i64 M' else if j = 7296 then Value.int .u64 (N + 1) else if j = i then Value.int .u64 (C i + 1) else hist C N M j) = hist (bump C i) (N + 1) M' j := by
  unfold hist bump
  by_cases h1 : j = 7297
  · subst h1; simp
  · by_cases h2 : j = 7296
    · subst h2; simp
    · have h3 : j < 7296 := by omega
      by_cases h4 : j = i
      · subst h4; simp [h1, h2, h3]
      · simp [h1, h2, h3, h4]

theorem record_end {b i : Nat} {C : Nat → Int} {N M M' : Int} {w w1 : World} (h : w.rowIs b 27 7298 (hist C N M)) (hi : i < 7296) (hw : w1.heap = w.heap) (h1 : w1.os = w.os) (h2 : w1.tape = w.tape) (h3 : w1.output = w.output) :
    (((w1.setCell ⟨b, i, none⟩ (.int .u64 (C i + 1))).setCell ⟨b, 7296, none⟩ (.int .u64 (N + 1))).setCell ⟨b, 7297, none⟩ (.int .i64 M')).rowIs b 27 7298 (hist (bump C i) (N + 1) M') ∧
    Wrote b w (((w1.setCell ⟨b, i, none⟩ (.int .u64 (C i + 1))).setCell ⟨b, 7296, none⟩ (.int .u64 (N + 1))).setCell ⟨b, 7297, none⟩ (.int .i64 M')) := by
  refine ⟨((((h.of_block (w' := w1) (by rw [hw])).set i _).set 7296 _).set 7297 _).congr fun j hj => hist_turn C N M M' i j hi hj, ⟨h1, h2, h3, ?_, fun k hk => ?_⟩⟩
  · simp [World.setCell, hw]
  · rw [Below.heap_setCell _ _ _ _ hk, Below.heap_setCell _ _ _ _ hk, Below.heap_setCell _ _ _ _ hk, hw]

set_option maxRecDepth 100000 in
set_option maxHeartbeats 200000 in
theorem record_any (b : Nat) (d : Int) (C : Nat → Int) (N M : Int) (w : World) (h : w.rowIs b 27 7298 (hist C N M)) (hd0 : -9223372036854775808 ≤ d) (hd1 : d ≤ 9223372036854775807)
    (hC : ∀ i, 0 ≤ C i ∧ C i ≤ 5000) (hN0 : 0 ≤ N) (hN1 : N ≤ 5000) :
    Calls Yba.prog 5 #[.pointer (some ⟨b, 0, none⟩), .int .i64 d] w fun e w' => e = .returned (.tuple #[]) ∧ w'.rowIs b 27 7298 (hist (bump C (bk d.toNat)) (N + 1) (max M d.toNat)) ∧ Wrote b w w' := by
  obtain ⟨m, hm, hm'⟩ : ∃ m : Nat, max d 0 = (m : Int) ∧ d.toNat = m := ⟨d.toNat, by omega, rfl⟩
  rw [hm']
  have hmx : m < 9223372036854775808 := by omega
  have hlt := bk_lt m hmx
  obtain ⟨i, hi⟩ : ∃ i, i = bk m := ⟨_, rfl⟩
  rw [← hi] at hlt ⊢
  have c1 := h.cell (i := i) (by omega)
  have c2 := h.cell (i := 7296) (by omega)
  have c3 := h.cell (i := 7297) (by omega)
  have f1 := h.frozen i
  have f2 := h.frozen 7296
  have f3 := h.frozen 7297
  rw [hist_count i hlt] at c1
  rw [hist_num] at c2
  rw [hist_max] at c3
  have bC := hC i
  have HI : Hid (i = bk m) := hi
  have HB : Hid (∀ w : World, Calls Yba.prog 8 #[.int .u64 (m : Int)] w fun e w' => e = .returned (.int .i64 (i : Int)) ∧ w = w') := fun w => by rw [hi]; exact bucket_any m w hmx
  have HE : Hid _ := @record_end b i C N M (max M m) w
  have H0 : Hid (w.rowIs b 27 7298 (hist C N M)) := h
  have hw1 : IntKind.u64.wrap (m : Int) = (m : Int) := by rw [IntKind.wrap_u64]; omega
  have hw2 : IntKind.u64.wrap (C i + 1) = C i + 1 := by rw [IntKind.wrap_u64]; omega
  have hp1 : (i : Int) < 7296 := by omega
  clear h hi hC hm' hd0 hd1
  go_enter Yba.func5, Yba.ntmps5
  go_wp2_with fail
  go_region_with (go_at_call 8; refine (HB.out _).mono ?_; rintro e w' ⟨rfl, rfl⟩)
  go_wp2
  go_end0
  refine ⟨rfl, ?_⟩
  have hend := HE.out (w1 := w.drew) H0.out hlt rfl rfl rfl rfl
  exact hend

/-- Count reads the number. -/
theorem count_any (b : Nat) (C : Nat → Int) (N M : Int) (w : World) (h : w.rowIs b 27 7298 (hist C N M)) :
    Calls Yba.prog 7 #[.pointer (some ⟨b, 0, none⟩)] w fun e w' => e = .returned (.int .u64 N) ∧ w = w' := by
  have c2 := h.cell (i := 7296) (by omega)
  rw [hist_num] at c2
  clear h
  go_enter Yba.func7, Yba.ntmps7
  go_wp2
  go_ret
  exact ⟨rfl, rfl⟩

end Go.Proofs.Ybulkanoy
