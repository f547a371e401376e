/-
  THE CONTRACTS of (*bySocket[int]).set and (bySocket[int]).at. A row of pointers is told by a plain function: place to pointer.
-/
import Derived.Test.YbulkanmuRows
import Derived.Test.YbulkanmuAppend
import Derived.WalkKit
import Derived.WalkSpells
import Derived.LaidEqlPtr
namespace Go.Proofs.Ybulkanmu
open Go.RowKit
set_option linter.unusedVariables false

theorem Yba.info25 : (Yba.prog.info? 25).map (fun i => (i.zero, i.size, i.bytes)) = some (some (.pointer none), 1, 8) := by kernel_rfl
theorem Yba.info3 : (Yba.prog.info? 3).map (fun i => (i.zero, i.size, i.bytes)) = some (some (.int .i64 0), 1, 8) := by kernel_rfl

/-- A row of n pointers. -/
def ptrs (n : Nat) (f : Nat → Option Addr) : List Value := (List.range n).map fun j => .pointer (f j)
/-- What the row holds behind set(fd, q). -/
def upd (f : Nat → Option Addr) (n fd : Nat) (q : Option Addr) : Nat → Option Addr := fun j => if j = fd then q else if j < n then f j else none

theorem ptrs_length (n : Nat) (f : Nat → Option Addr) : (ptrs n f).length = n := by simp [ptrs]
theorem ptrs_get (n : Nat) (f : Nat → Option Addr) (j : Nat) (h : j < n) : (ptrs n f)[j]? = some (.pointer (f j)) := by simp [ptrs, h]
theorem ptrs_nil (n : Nat) : List.replicate n (Value.pointer none) = ptrs n fun _ => none := by
  apply List.ext_getElem <;> simp [ptrs]
theorem ptrs_congr (n : Nat) (f h : Nat → Option Addr) (e : ∀ j, j < n → f j = h j) : ptrs n f = ptrs n h := by
  apply List.ext_getElem
  · simp [ptrs]
  · intro j h1 h2
    simp only [ptrs, List.getElem_map, List.getElem_range]
    rw [e j (by simpa [ptrs] using h1)]
theorem ptrs_set (n : Nat) (f : Nat → Option Addr) (fd : Nat) (q : Option Addr) : (ptrs n f).set fd (.pointer q) = ptrs n (upd f n fd q) := by
  apply List.ext_getElem
  · simp [ptrs]
  · intro j h1 h2
    have hj : j < n := by simpa [ptrs] using h2
    simp only [List.getElem_set, ptrs, List.getElem_map, List.getElem_range, upd]
    by_cases e : fd = j
    · simp [e]
    · simp [e, Ne.symm e, hj]
theorem ptrs_out (n : Nat) (f : Nat → Option Addr) (fd : Nat) (q : Option Addr) (h : n ≤ fd) :
    (ptrs n f ++ List.replicate (fd + 1 - n) (Value.pointer none)).set fd (.pointer q) = ptrs (fd + 1) (upd f n fd q) := by
  apply List.ext_getElem
  · simp [ptrs]; omega
  · intro j h1 h2
    have hj : j < fd + 1 := by simpa [ptrs] using h2
    simp only [List.getElem_set, ptrs, List.getElem_map, List.getElem_range, upd, List.getElem_append, List.length_map, List.length_range, List.getElem_replicate]
    by_cases e : fd = j
    · simp [e]
    · by_cases e2 : j < n
      · simp [e, Ne.symm e, e2]
      · simp [e, Ne.symm e, e2]

theorem ptr_cell {w : World} {base g n cap : Nat} {f : Nat → Option Addr} (h : w.ownsRow base 25 1 (.slice (some ⟨g, 0, none⟩) n cap) n (ptrs n f)) (j : Nat) (hj : j < n) : w.cell? ⟨g, j, none⟩ = some (.pointer (f j)) := by
  rw [h.cellAt j (by omega), ptrs_get n f j hj]

/-- Of the blocks that were there none has turned but 'bb' and 'row'. -/
structure Turned (bb : Nat) (row : Option Nat) (w w' : World) : Prop where
  os : w'.os = w.os
  tape : w'.tape = w.tape
  output : w'.output = w.output
  size : w.heap.size ≤ w'.heap.size
  block : ∀ k, k < w.heap.size → k ≠ bb → some k ≠ row → w'.heap[k]? = w.heap[k]?

theorem Turned.cell {bb : Nat} {row : Option Nat} {w w' : World} (h : Turned bb row w w') {a : Addr} (h1 : a.block < w.heap.size) (h2 : a.block ≠ bb) (h3 : some a.block ≠ row) : w'.cell? a = w.cell? a :=
  World.cell?_of_block (h.block a.block h1 h2 h3)
theorem Turned.below {bb B : Nat} {row : Option Nat} {w0 w w' : World} (h : Turned bb row w w') (hb : Below B w0 w) (h1 : B ≤ w.heap.size) (h2 : B ≤ bb) (h3 : ∀ k, row = some k → B ≤ k) : Below B w0 w' :=
  hb.trans ⟨h.os, h.tape, h.output, h.size, fun k hk => h.block k (by omega) (by omega) (fun e => by have := h3 k e.symm; omega)⟩
/-- A row in a block that has not turned is owned as it was. -/
theorem Turned.owns {bb base : Nat} {row : Option Nat} {w w' : World} (h : Turned bb row w w') {e : TypeId} {g n cap : Nat} {xs : List Value} (ho : w.ownsRow base e 1 (.slice (some ⟨g, 0, none⟩) n cap) n xs)
    (h2 : g ≠ bb) (h3 : some g ≠ row) : w'.ownsRow base e 1 (.slice (some ⟨g, 0, none⟩) n cap) n xs := by
  refine ⟨ho.1, ?_⟩
  rcases ho.2 with hv | ⟨g', cap', cur, hv, hb, hg, r⟩
  · exact .inl hv
  · simp only [Value.slice.injEq, Option.some.injEq, Addr.mk.injEq, and_true, true_and] at hv
    obtain ⟨rfl, rfl⟩ := hv
    exact .inr ⟨g, cap, cur, rfl, hb, by rw [h.block g (ho.lt g rfl).2 h2 h3]; exact hg, r⟩

theorem grownBy_of_drew {w w1 : World} {r : Option Nat} (h : w.drew.grownBy w1 r) : w.grownBy w1 r := ⟨h.os, h.tape, h.output, h.size, h.block⟩
theorem grownBy_setCell (w : World) (a : Addr) (u : Value) : w.grownBy (w.setCell a u) (some a.block) :=
  ⟨rfl, rfl, rfl, by simp [World.setCell], fun k _ hk => Below.heap_setCell _ _ _ _ (fun e => hk (by rw [e]))⟩
theorem beyond {bb size g : Nat} {row : Option Nat} (hrow : some bb ≠ row) (hbb : bb < size) (hg1 : row = some g ∨ size ≤ g) : bb ≠ g := by
  rcases hg1 with h | h
  · intro e; subst e; exact hrow h.symm
  · omega

/-- set, fd within the length. -/
theorem set_in (bb base fd n g cap : Nat) (q : Option Addr) (xs : List Value) (w : World) (hbox : w.cell? ⟨bb, 0, none⟩ = some (.slice (some ⟨g, 0, none⟩) n cap))
    (hown : w.ownsRow base 25 1 (.slice (some ⟨g, 0, none⟩) n cap) n xs) (hn : n ≤ 5000) (hfd : fd < n) :
    Calls Yba.prog 5 #[.pointer (some ⟨bb, 0, none⟩), .int .i64 fd, .pointer q] w fun e w' => e = .returned (.tuple #[]) ∧ w.setCell ⟨g, fd, none⟩ (.pointer q) = w' := by
  have hlen : xs.length = n := by simpa using hown.1
  have hcell := hown.cellAt fd (by omega)
  rw [List.getElem?_eq_getElem (by omega)] at hcell
  have hfr := hown.frozenAt fd
  clear hown
  go_enter Yba.func5, Yba.ntmps5
  go_wp2
  go_end0
  exact ⟨rfl, rfl⟩

/-- WHAT set LEAVES where it made the slice longer (no walk here). -/
theorem set_out_end (bb base fd n g cap' : Nat) (q : Option Addr) (xs : List Value) (row : Option Nat) (u : Value) (w w1 : World) (hbox : w.cell? ⟨bb, 0, none⟩ = some u) (hfz : w.frozen? ⟨bb, 0, none⟩ = false)
    (hbb : bb < w.heap.size) (hne : some bb ≠ row)
    (hown1 : w1.ownsRow base 25 1 (.slice (some ⟨g, 0, none⟩) (fd + 1) cap') (fd + 1) (xs ++ List.replicate (fd + 1 - n) (Value.pointer none))) (hgrow1 : w.grownBy w1 row) (hg1 : row = some g ∨ w.heap.size ≤ g) :
    (((w1.setCell ⟨bb, 0, none⟩ (.slice (some ⟨g, 0, none⟩) (fd + 1) cap')).setCell ⟨g, fd, none⟩ (.pointer q)).cell? ⟨bb, 0, none⟩ = some (.slice (some ⟨g, 0, none⟩) (fd + 1) cap')) ∧
    (((w1.setCell ⟨bb, 0, none⟩ (.slice (some ⟨g, 0, none⟩) (fd + 1) cap')).setCell ⟨g, fd, none⟩ (.pointer q)).frozen? ⟨bb, 0, none⟩ = false) ∧
    ((w1.setCell ⟨bb, 0, none⟩ (.slice (some ⟨g, 0, none⟩) (fd + 1) cap')).setCell ⟨g, fd, none⟩ (.pointer q)).ownsRow base 25 1 (.slice (some ⟨g, 0, none⟩) (fd + 1) cap') (fd + 1) ((xs ++ List.replicate (fd + 1 - n) (Value.pointer none)).set fd (.pointer q)) ∧
    Turned bb row w ((w1.setCell ⟨bb, 0, none⟩ (.slice (some ⟨g, 0, none⟩) (fd + 1) cap')).setCell ⟨g, fd, none⟩ (.pointer q)) := by
  have hgb : bb ≠ g := beyond hne hbb hg1
  have hbx : w1.cell? ⟨bb, 0, none⟩ = some u := hgrow1.cell hbox hne
  have hbf : w1.frozen? ⟨bb, 0, none⟩ = false := (World.frozen?_of_block (hgrow1.block bb (by omega) hne)).trans hfz
  have hown2 := (hown1.kept (grownBy_setCell w1 ⟨bb, 0, none⟩ (.slice (some ⟨g, 0, none⟩) (fd + 1) cap')) (.inr (by simpa [Value.ownBlock] using Ne.symm hgb))).stored fd (.pointer q)
  refine ⟨?_, ?_, hown2.1, ⟨hgrow1.os, hgrow1.tape, hgrow1.output, ?_, ?_⟩⟩
  · refine (World.cell?_setCell_other _ _ _ _ (by intro e; simp only [Addr.mk.injEq] at e; omega)).trans ?_
    exact World.cell?_setCell_same _ _ _ hbx
  · simpa using hbf
  · have := hgrow1.size
    simpa [World.setCell] using this
  · intro k hk h1 h2
    have hkg : k ≠ g := by
      rcases hg1 with h | h
      · intro e; exact h2 (by rw [e, h])
      · omega
    rw [Below.heap_setCell _ _ _ _ hkg, Below.heap_setCell _ _ _ _ h1]
    exact hgrow1.block k hk h2

/-- set, fd beyond the length: the slice is made longer first. -/
theorem set_out (bb base fd n cap : Nat) (ao : Option Addr) (q : Option Addr) (xs : List Value) (w : World) (hbox : w.cell? ⟨bb, 0, none⟩ = some (.slice ao n cap)) (hfz : w.frozen? ⟨bb, 0, none⟩ = false)
    (hown : w.ownsRow base 25 1 (.slice ao n cap) n xs) (hbb : bb < w.heap.size) (hne : some bb ≠ (Value.slice ao n cap).ownBlock) (hbase : base ≤ w.heap.size) (hfd : n ≤ fd) (hmax : fd ≤ 5000) :
    Calls Yba.prog 5 #[.pointer (some ⟨bb, 0, none⟩), .int .i64 fd, .pointer q] w fun e w' => e = .returned (.tuple #[]) ∧ ∃ g cap',
      w'.cell? ⟨bb, 0, none⟩ = some (.slice (some ⟨g, 0, none⟩) (fd + 1) cap') ∧ w'.frozen? ⟨bb, 0, none⟩ = false ∧
      w'.ownsRow base 25 1 (.slice (some ⟨g, 0, none⟩) (fd + 1) cap') (fd + 1) ((xs ++ List.replicate (fd + 1 - n) (Value.pointer none)).set fd (.pointer q)) ∧
      ((Value.slice ao n cap).ownBlock = some g ∨ w.heap.size ≤ g) ∧ Turned bb (Value.slice ao n cap).ownBlock w w' := by
  obtain ⟨i0, hi0, hz0, hz1, hz2⟩ := info_parts Yba.info25
  have hwr1 : IntKind.i64.wrap ((fd : Int) + 1) = (fd : Int) + 1 := by rw [IntKind.wrap_i64]; omega
  have hwr2 : IntKind.i64.wrap ((fd : Int) + 1 - (n : Int)) = (fd : Int) + 1 - (n : Int) := by rw [IntKind.wrap_i64]; omega
  have hend := fun g cap' w1 => set_out_end bb base fd n g cap' q xs (Value.slice ao n cap).ownBlock _ w w1 hbox hfz hbb hne
  have HE : Hid (∀ g cap' w1, w1.ownsRow base 25 1 (.slice (some ⟨g, 0, none⟩) (fd + 1) cap') (fd + 1) (xs ++ List.replicate (fd + 1 - n) (Value.pointer none)) → w.grownBy w1 (Value.slice ao n cap).ownBlock → ((Value.slice ao n cap).ownBlock = some g ∨ w.heap.size ≤ g) → _) := hend
  have HN : Hid (some bb ≠ (Value.slice ao n cap).ownBlock) := hne
  clear hend hne
  go_enter Yba.func5, Yba.ntmps5
  go_wp2_with fail
  go_region_law (refine step_append_zeros rfl (.tmp 15) (.tmp 22) 24 3 rfl base 25 i0 (.pointer none) 8 .i64 Yba.underlying24 Yba.underlying3 hi0 hz0 hz1 hz2 rfl rfl ao n cap xs (by simp [Act.eval, Act.put]) (by exact hown) (fd + 1 - n) _ (by simp [Act.eval, Act.put]; rfl) (by omega) (by omega) (by unfold maxLen; omega) (by omega) (by simpa using hbase) ?_; intro g cap' w1 hown1 hgrow1 hg1; rw [show n + (fd + 1 - n) = fd + 1 by omega] at hown1 ⊢; have hbx : w1.cell? ⟨bb, 0, none⟩ = some (.slice ao n cap) := World.grownBy.cell hgrow1 (by simpa using hbox) HN.out; have hbf : w1.frozen? ⟨bb, 0, none⟩ = false := (World.frozen?_of_block (World.grownBy.block hgrow1 bb (by exact hbb) HN.out)).trans (by simpa using hfz); have hcg := hown1.cellAt fd (by omega); rw [List.getElem?_eq_getElem (by rw [hown1.1]; omega)] at hcg; have hcf := hown1.frozenAt fd; have hbg : bb ≠ g := beyond HN.out hbb hg1; have hgb : g ≠ bb := Ne.symm hbg)
  all_goals go_wp2
  all_goals go_end0
  all_goals exact ⟨rfl, _, _, (HE.out _ _ _ hown1 (grownBy_of_drew hgrow1) hg1).1, (HE.out _ _ _ hown1 (grownBy_of_drew hgrow1) hg1).2.1, (HE.out _ _ _ hown1 (grownBy_of_drew hgrow1) hg1).2.2.1, hg1, (HE.out _ _ _ hown1 (grownBy_of_drew hgrow1) hg1).2.2.2⟩

/-- set, WHATEVER fd. -/
theorem set_any (bb base fd n cap L : Nat) (ao : Option Addr) (q : Option Addr) (f : Nat → Option Addr) (w : World) (hL : n ≤ fd ∧ L = fd + 1 ∨ fd < n ∧ L = n) (hbox : w.cell? ⟨bb, 0, none⟩ = some (.slice ao n cap)) (hfz : w.frozen? ⟨bb, 0, none⟩ = false)
    (hown : w.ownsRow base 25 1 (.slice ao n cap) n (ptrs n f)) (hbb : bb < w.heap.size) (hne : some bb ≠ (Value.slice ao n cap).ownBlock) (hbase : base ≤ w.heap.size) (hn : n ≤ 5000) (hmax : fd ≤ 5000) :
    Calls Yba.prog 5 #[.pointer (some ⟨bb, 0, none⟩), .int .i64 fd, .pointer q] w fun e w' => e = .returned (.tuple #[]) ∧ ∃ g cap',
      w'.cell? ⟨bb, 0, none⟩ = some (.slice (some ⟨g, 0, none⟩) L cap') ∧ w'.frozen? ⟨bb, 0, none⟩ = false ∧
      w'.ownsRow base 25 1 (.slice (some ⟨g, 0, none⟩) L cap') L (ptrs L (upd f n fd q)) ∧
      ((Value.slice ao n cap).ownBlock = some g ∨ w.heap.size ≤ g) ∧ Turned bb (Value.slice ao n cap).ownBlock w w' := by
  rcases hL with ⟨h1, rfl⟩ | ⟨h1, rfl⟩
  · refine (set_out bb base fd n cap ao q _ w hbox hfz hown hbb hne hbase h1 hmax).mono ?_
    rintro e w' ⟨he, g, cap', r1, r2, r3, r4⟩
    exact ⟨he, g, cap', r1, r2, by rw [← ptrs_out n f fd q h1]; exact r3, r4⟩
  · rcases hown.2 with ⟨_, h0⟩ | ⟨g, cap', cur, hv, _⟩
    · omega
    · simp only [Value.slice.injEq] at hv
      obtain ⟨rfl, _, rfl⟩ := hv
      refine (set_in bb base fd L g cap q _ w hbox hown hn h1).mono ?_
      rintro e w' ⟨he, rfl⟩
      have hgb : bb ≠ g := fun e => hne (by simp [Value.ownBlock, e])
      have hs := hown.stored fd (.pointer q)
      refine ⟨he, g, cap, ?_, ?_, ?_, .inl rfl, ⟨rfl, rfl, rfl, hs.2.size, fun k hk _ h2 => hs.2.block k hk h2⟩⟩
      · exact (World.cell?_setCell_other _ _ _ _ (by intro e; simp only [Addr.mk.injEq] at e; omega)).trans hbox
      · simpa using hfz
      · rw [← ptrs_set]
        exact hs.1

/-- at, within the length. -/
theorem at_in (g n cap i : Nat) (p : Option Addr) (w : World) (hc : w.cell? ⟨g, i, none⟩ = some (.pointer p)) (hi : i < n) (hn : n ≤ 5000) :
    Calls Yba.prog 6 #[.slice (some ⟨g, 0, none⟩) n cap, .int .i64 i] w fun e w' => e = .returned (.pointer p) ∧ w = w' := by
  go_enter Yba.func6, Yba.ntmps6
  go_wp2
  go_ret
  exact ⟨rfl, rfl⟩

/-- at, beyond the length. -/
theorem at_out (ao : Option Addr) (n cap i : Nat) (w : World) (hi : n ≤ i) (hn : i ≤ 5000) :
    Calls Yba.prog 6 #[.slice ao n cap, .int .i64 i] w fun e w' => e = .returned (.pointer none) ∧ w = w' := by
  go_enter Yba.func6, Yba.ntmps6
  go_wp2
  go_ret
  exact ⟨rfl, rfl⟩

/-- at, WHATEVER the place. -/
theorem at_any (base n cap i : Nat) (ao : Option Addr) (f : Nat → Option Addr) (w : World) (hown : w.ownsRow base 25 1 (.slice ao n cap) n (ptrs n f)) (hf : n ≤ i → f i = none) (hn : n ≤ 5000) (hi : i ≤ 5000) :
    Calls Yba.prog 6 #[.slice ao n cap, .int .i64 i] w fun e w' => e = .returned (.pointer (f i)) ∧ w = w' := by
  by_cases h : i < n
  · rcases hown.2 with ⟨_, h0⟩ | ⟨g, cap', cur, hv, _⟩
    · omega
    · simp only [Value.slice.injEq] at hv
      obtain ⟨rfl, _, rfl⟩ := hv
      exact at_in g n cap i (f i) w (ptr_cell hown i h) h hn
  · rw [hf (by omega)]
    exact at_out ao n cap i w (by omega) hi

end Go.Proofs.Ybulkanmu
