/-
  THE WALK of LawS1957ASet.
-/
import Derived.Test.YbulkanmuSocket
import Derived.Deep.OwnRows
import Derived.Deep.QuietTactic
import Derived.BigQuiet
namespace Go.Proofs.Ybulkanmu
open Go.RowKit
set_option linter.unusedVariables false

theorem equal_same (d : Nat) (q : Option Addr) (w : World) : (Op.equalIn (d + 1) 25 (.pointer q) (.pointer q)).run Yba.prog w = .ok true w := by
  obtain ⟨i, hi, _⟩ := info_parts Yba.info3
  cases q with
  | none => simp [Op.equalIn, run_underlying Yba.underlying25]
  | some a => simp [Op.equalIn, run_underlying Yba.underlying25, sizeOf, typeInfo, hi, run_sameAddr_same]
theorem neq_same (q : Option Addr) (w : World) : (binOp .neq 25 (.pointer q) (.pointer q)).run Yba.prog w = .ok (.bool false) w := by
  simp only [binOp]
  simp [Op.equal, Op.maxDepth, equal_same 9999 q w]

theorem rowIs_owns {w : World} {g base n : Nat} {ps : Nat → Option Addr} (h : w.rowIs g 25 n (fun j => .pointer (ps j))) (hb : base ≤ g) (hn : n ≤ 5000) : w.ownsRow base 25 1 (.slice (some ⟨g, 0, none⟩) n n) n (ptrs n ps) := by
  obtain ⟨c, h1, h2, h3⟩ := h
  refine ⟨by simp [ptrs], .inr ⟨g, n, c, rfl, hb, h1, Nat.le_refl _, by unfold maxLen; omega, by omega, ?_⟩⟩
  apply List.ext_getElem?
  intro j
  rw [List.getElem?_take]
  by_cases hj : j < n
  · rw [if_pos (by omega), ptrs_get n ps j hj]
    simpa using h3 j hj
  · rw [if_neg (by omega)]
    simp [ptrs, hj]

/-- WHAT HOLDS BETWEEN THE ROUNDS OF THE FIRST LOOP: the box holds the slice over the first row; both rows hold the same pointers; nothing that was there has turned. -/
structure Mid (w wr : World) (n : Nat) (ps : Nat → Option Addr) : Prop where
  box : wr.cell? ⟨w.heap.size + 1, 0, none⟩ = some (.slice (some ⟨w.heap.size, 0, none⟩) n n)
  boxf : wr.frozen? ⟨w.heap.size + 1, 0, none⟩ = false
  row : wr.rowIs w.heap.size 25 n (fun j => .pointer (ps j))
  orig : wr.rowIs (w.heap.size + 1 + 1) 25 n (fun j => .pointer (ps j))
  below : Below w.heap.size w wr
  size : w.heap.size + 3 ≤ wr.heap.size

theorem mid_start (w : World) (n : Nat) : Mid w (((w.alloc (.cells (madeCells #[.pointer none] n) 25)).alloc (.cells #[.slice (some ⟨w.heap.size, 0, none⟩) n n] 24)).alloc (.cells (madeCells #[.pointer none] n) 25)) n (fun _ => none) := by
  have e1 : (w.alloc (.cells (madeCells #[.pointer none] n) 25)).heap.size = w.heap.size + 1 := by simp
  have e2 : ((w.alloc (.cells (madeCells #[.pointer none] n) 25)).alloc (.cells #[.slice (some ⟨w.heap.size, 0, none⟩) n n] 24)).heap.size = w.heap.size + 1 + 1 := by simp
  refine ⟨?_, ?_, ?_, ?_, ?_, ?_⟩
  · rw [World.cell?_alloc_lt _ _ _ (by simp), ← e1, World.cell?_alloc_new]; rfl
  · rw [World.frozen?_of_block (Below.heap_alloc _ _ _ (by simp)), ← e1]
    exact frozen_of_row _ _ 0 _ _ (Go.heap_alloc_new _ _)
  · exact ((World.rowIs_made w (.pointer none) n 25).alloc _).alloc _
  · rw [← e2]; exact World.rowIs_made _ (.pointer none) n 25
  · exact (((Below.refl _ w).alloc (Nat.le_refl _) _).alloc (by simp) _).alloc (by simp; omega) _
  · simp

theorem Mid.alloc {w wr : World} {n : Nat} {ps : Nat → Option Addr} (h : Mid w wr n ps) (o : Obj) : Mid w (wr.alloc o) n ps := by
  have hs := h.size
  refine ⟨?_, ?_, h.row.alloc _, h.orig.alloc _, h.below.alloc (by omega) _, by simp; omega⟩
  · rw [World.cell?_alloc_lt _ _ _ (by show w.heap.size + 1 < _; omega)]
    exact h.box
  · exact (World.frozen?_of_block (Below.heap_alloc _ _ _ (by show w.heap.size + 1 < _; omega))).trans h.boxf

theorem mid_step {w wr : World} {n k : Nat} {ps : Nat → Option Addr} (h : Mid w wr n ps) (p : Option Addr) (o : Obj) :
    Mid w (((wr.setCell ⟨w.heap.size, k, none⟩ (.pointer p)).setCell ⟨w.heap.size + 1 + 1, k, none⟩ (.pointer p)).alloc o) n (fun j => if j = k then p else ps j) := by
  have hs := h.size
  refine Mid.alloc ⟨?_, ?_, ?_, ?_, ?_, ?_⟩ o
  · refine (World.cell?_setCell_other _ _ _ _ (by intro e; simp only [Addr.mk.injEq] at e; omega)).trans ?_
    refine (World.cell?_setCell_other _ _ _ _ (by intro e; simp only [Addr.mk.injEq] at e; omega)).trans ?_
    exact h.box
  · rw [World.frozen?_setCell, World.frozen?_setCell]
    exact h.boxf
  · refine ((h.row.set k _).setOther (by show w.heap.size ≠ w.heap.size + 1 + 1; omega) _).congr fun j _ => ?_
    by_cases e : j = k <;> simp [e]
  · refine ((h.orig.setOther (by show w.heap.size + 1 + 1 ≠ w.heap.size; omega) _).set k _).congr fun j _ => ?_
    by_cases e : j = k <;> simp [e]
  · exact (h.below.setCell (Nat.le_refl _) _).setCell (by show w.heap.size ≤ w.heap.size + 1 + 1; omega) _
  · simp [World.setCell]; omega

/-- WHAT HOLDS BEHIND set: the box holds the new slice; its row holds what it held but for place fd; the copy stands; so does what q leads to. -/
structure Aft (w w2 : World) (n L fd g cap : Nat) (ps : Nat → Option Addr) (q : Option Addr) : Prop where
  box : w2.cell? ⟨w.heap.size + 1, 0, none⟩ = some (.slice (some ⟨g, 0, none⟩) L cap)
  own : w2.ownsRow w.heap.size 25 1 (.slice (some ⟨g, 0, none⟩) L cap) L (ptrs L (upd ps n fd q))
  orig : ∀ j, j < n → w2.cell? ⟨w.heap.size + 1 + 1, j, none⟩ = some (.pointer (ps j))
  below : Below w.heap.size w w2

theorem aft_of {w wr w2 : World} {n L fd g cap : Nat} {ps : Nat → Option Addr} {q : Option Addr} (h : Mid w wr n ps) (r1 : w2.cell? ⟨w.heap.size + 1, 0, none⟩ = some (.slice (some ⟨g, 0, none⟩) L cap))
    (r3 : w2.ownsRow w.heap.size 25 1 (.slice (some ⟨g, 0, none⟩) L cap) L (ptrs L (upd ps n fd q))) (r5 : Turned (w.heap.size + 1) (some w.heap.size) wr w2) : Aft w w2 n L fd g cap ps q := by
  have hs := h.size
  refine ⟨r1, r3, fun j hj => ?_, r5.below h.below (by omega) (by omega) (fun k e => by simp at e; omega)⟩
  rw [r5.cell (by show w.heap.size + 1 + 1 < _; omega) (by show w.heap.size + 1 + 1 ≠ _; omega) (by simp only [ne_eq, Option.some.injEq]; omega)]
  exact h.orig.cell hj

set_option maxHeartbeats 1000000 in
theorem set_main (ad : Option Addr) (n cap0 : Nat) (Z : Nat → Int) (fd : Nat) (keep : Bool) (x : Int) (w : World) (hn : n ≤ 1024) (hfd : fd ≤ 1024)
    (hc : ∀ k : Nat, k < n → ∃ b off : Nat, ad = some ⟨b, off, none⟩ ∧ b < w.heap.size ∧ w.cell? ⟨b, off + k, none⟩ = some (.int .i64 (Z k))) :
    Calls Yba.prog 3 #[.slice ad n cap0, .int .i64 fd, .bool keep, .int .i64 x] w fun e w' => e = .returned (.bool true) ∧ Below w.heap.size w w' := by
  have hmk1 := run_make_row' (P := Yba.prog) 24 25 (.pointer none) 8 Yba.underlying24 Yba.info25 rfl .i64 .i64 n (by omega) (by omega)
  have hmk2 := run_make_row' (P := Yba.prog) 23 25 (.pointer none) 8 Yba.underlying23 Yba.info25 rfl .i64 .i64 n (by omega) (by omega)
  have HC : Hid (∀ k : Nat, k < n → ∃ b off : Nat, ad = some ⟨b, off, none⟩ ∧ b < w.heap.size ∧ w.cell? ⟨b, off + k, none⟩ = some (.int .i64 (Z k))) := hc
  have HS : Hid (Mid w (((w.alloc (.cells (madeCells #[.pointer none] n) 25)).alloc (.cells #[.slice (some ⟨w.heap.size, 0, none⟩) n n] 24)).alloc (.cells (madeCells #[.pointer none] n) 25)) n (fun _ => none)) := mid_start w n
  clear hc
  go_enter Yba.func3, Yba.ntmps3
  go_wp2
  clear hmk1 hmk2
  go_loopw [12] (fun i wr => ∃ (k : Nat) (ps : Nat → Option Addr), k ≤ n ∧ i = .int .i64 k ∧ Mid w wr n ps) (fun i _ => n - (intOf i).toNat)
  case atStart => exact ⟨0, _, Nat.zero_le _, rfl, HS.out⟩
  case round =>
    obtain ⟨k, ps, hk, rfl, hmid⟩ := hrel
    by_cases hlt : k < n
    · obtain ⟨b, off, rfl, hA, hcA⟩ := HC.out k hlt
      have hcA' : wr.cell? ⟨b, off + k, none⟩ = some (.int .i64 (Z k)) := (hmid.below.cell hA).trans hcA
      have hsz := hmid.size
      have c1 := hmid.box
      have c2 := hmid.row.cell hlt
      have c3 := hmid.orig.cell hlt
      have f2 := hmid.row.frozen k
      have f3 := hmid.orig.frozen k
      have g1 : b < wr.heap.size := by omega
      have g2 : w.heap.size < wr.heap.size := by omega
      have g3 : w.heap.size + 1 < wr.heap.size := by omega
      have g4 : w.heap.size + 1 + 1 < wr.heap.size := by omega
      have HM : Hid (Mid w wr n ps) := hmid
      clear hcA hmid
      go_wp2
      · go_roundw
        case rel => exact ⟨k + 1, _, by omega, by go_num, mid_step HM.out _ _⟩
        case measure => simp [intOf]; omega
      · go_roundw
        case rel => exact ⟨k + 1, _, by omega, by go_num, HM.out⟩
        case measure => simp [intOf]; omega
    · cases keep
      · by_cases hL : n ≤ fd
        · have HM : Hid (Mid w wr n ps) := hmid
          clear hmid HS HC
          go_wp2_with fail
          refine (set_any (w.heap.size + 1) w.heap.size fd n n (fd + 1) (some ⟨w.heap.size, 0, none⟩) none ps wr (.inl ⟨hL, rfl⟩) HM.out.box HM.out.boxf (rowIs_owns HM.out.row (Nat.le_refl _) (by omega)) (by have := HM.out.size; omega) (by simp [Value.ownBlock]) (by have := HM.out.size; omega) (by omega) (by omega)).mono ?_
          rintro e w2 ⟨rfl, g, cap', r1, r2, r3, r4, r5⟩
          have HA : Hid (Aft w w2 n (fd + 1) fd g cap' ps none) := aft_of HM.out r1 r3 r5
          clear r2 r3 r4 r5
          have hwant : ((n : Int) < (fd : Int) + 1) = True := by simp; omega
          go_wp2_with fail
          go_loopw [16] (fun i wq => ∃ (k2 m : Nat), k2 ≤ (fd + 1) ∧ i = .int .i64 k2 ∧ wq = w2.drewN m) (fun i _ => (fd + 1) - (intOf i).toNat)
          case atStart => exact ⟨0, 0, Nat.zero_le _, rfl, rfl⟩
          case round =>
            obtain ⟨k2, m, hk2, rfl, rfl⟩ := hrel
            by_cases hlt2 : k2 < (fd + 1)
            · by_cases e1 : k2 = fd
              · have e2 : ((k2 : Int) == (fd : Int)) = true := by simp [e1]
                have c1 : w2.cell? ⟨g, k2, none⟩ = some (.pointer none) := by rw [ptr_cell HA.out.own k2 hlt2]; simp [upd, e1]
                have hq := neq_same none
                clear e1
                go_wp2
                go_roundw
                case rel => exact ⟨k2 + 1, m, by omega, by go_num, rfl⟩
                case measure => simp [intOf]; omega
              · have e2 : ((k2 : Int) == (fd : Int)) = false := by simp; omega
                by_cases h3 : k2 < n
                · have c1 : w2.cell? ⟨g, k2, none⟩ = some (.pointer (ps k2)) := by rw [ptr_cell HA.out.own k2 hlt2]; simp [upd, e1, h3]
                  have c2 := HA.out.orig k2 h3
                  have hq := neq_same (ps k2)
                  go_wp2
                  go_quiet (fail)
                  go_wp2
                  go_roundw
                  case rel => exact ⟨k2 + 1, _, by omega, by go_num, rfl⟩
                  case measure => simp [intOf]; omega
                · have c1 : w2.cell? ⟨g, k2, none⟩ = some (.pointer none) := by rw [ptr_cell HA.out.own k2 hlt2]; simp [upd, e1, h3]
                  go_wp2
                  go_roundw
                  case rel => exact ⟨k2 + 1, m, by omega, by go_num, rfl⟩
                  case measure => simp [intOf]; omega
            · have cq : w2.cell? ⟨g, fd, none⟩ = some (.pointer none) := by rw [ptr_cell HA.out.own fd (by omega)]; simp [upd]
              have hq := neq_same none
              go_wp2_with (go_at_call 6; refine (at_in g (fd + 1) cap' fd none _ (by simpa using cq) (by omega) (by omega)).mono ?_; rintro e w' ⟨rfl, rfl⟩)
              go_ret
              exact ⟨rfl, HA.out.below.trans ⟨rfl, rfl, rfl, Nat.le_refl _, fun _ _ => rfl⟩⟩
        · have HM : Hid (Mid w wr n ps) := hmid
          clear hmid HS HC
          go_wp2_with fail
          refine (set_any (w.heap.size + 1) w.heap.size fd n n n (some ⟨w.heap.size, 0, none⟩) none ps wr (.inr ⟨by omega, rfl⟩) HM.out.box HM.out.boxf (rowIs_owns HM.out.row (Nat.le_refl _) (by omega)) (by have := HM.out.size; omega) (by simp [Value.ownBlock]) (by have := HM.out.size; omega) (by omega) (by omega)).mono ?_
          rintro e w2 ⟨rfl, g, cap', r1, r2, r3, r4, r5⟩
          have HA : Hid (Aft w w2 n n fd g cap' ps none) := aft_of HM.out r1 r3 r5
          clear r2 r3 r4 r5
          have hwant : ((n : Int) < (fd : Int) + 1) = False := by simp; omega
          go_wp2_with fail
          go_loopw [16] (fun i wq => ∃ (k2 m : Nat), k2 ≤ n ∧ i = .int .i64 k2 ∧ wq = w2.drewN m) (fun i _ => n - (intOf i).toNat)
          case atStart => exact ⟨0, 0, Nat.zero_le _, rfl, rfl⟩
          case round =>
            obtain ⟨k2, m, hk2, rfl, rfl⟩ := hrel
            by_cases hlt2 : k2 < n
            · by_cases e1 : k2 = fd
              · have e2 : ((k2 : Int) == (fd : Int)) = true := by simp [e1]
                have c1 : w2.cell? ⟨g, k2, none⟩ = some (.pointer none) := by rw [ptr_cell HA.out.own k2 hlt2]; simp [upd, e1]
                have hq := neq_same none
                clear e1
                go_wp2
                go_roundw
                case rel => exact ⟨k2 + 1, m, by omega, by go_num, rfl⟩
                case measure => simp [intOf]; omega
              · have e2 : ((k2 : Int) == (fd : Int)) = false := by simp; omega
                by_cases h3 : k2 < n
                · have c1 : w2.cell? ⟨g, k2, none⟩ = some (.pointer (ps k2)) := by rw [ptr_cell HA.out.own k2 hlt2]; simp [upd, e1, h3]
                  have c2 := HA.out.orig k2 h3
                  have hq := neq_same (ps k2)
                  go_wp2
                  go_quiet (fail)
                  go_wp2
                  go_roundw
                  case rel => exact ⟨k2 + 1, _, by omega, by go_num, rfl⟩
                  case measure => simp [intOf]; omega
                · exact absurd hlt2 h3
            · have cq : w2.cell? ⟨g, fd, none⟩ = some (.pointer none) := by rw [ptr_cell HA.out.own fd (by omega)]; simp [upd]
              have hq := neq_same none
              go_wp2_with (go_at_call 6; refine (at_in g n cap' fd none _ (by simpa using cq) (by omega) (by omega)).mono ?_; rintro e w' ⟨rfl, rfl⟩)
              go_ret
              exact ⟨rfl, HA.out.below.trans ⟨rfl, rfl, rfl, Nat.le_refl _, fun _ _ => rfl⟩⟩
      · by_cases hL : n ≤ fd
        · have HM : Hid (Mid w wr n ps) := hmid
          clear hmid HS HC
          go_wp2_with fail
          refine (set_any (w.heap.size + 1) w.heap.size fd n n (fd + 1) (some ⟨w.heap.size, 0, none⟩) (some ⟨wr.heap.size, 0, none⟩) ps (wr.alloc (.cells #[.int .i64 x] 3)) (.inl ⟨hL, rfl⟩) (HM.out.alloc (.cells #[.int .i64 x] 3)).box (HM.out.alloc (.cells #[.int .i64 x] 3)).boxf (rowIs_owns (HM.out.alloc (.cells #[.int .i64 x] 3)).row (Nat.le_refl _) (by omega)) (by have := (HM.out.alloc (.cells #[.int .i64 x] 3)).size; omega) (by simp [Value.ownBlock]) (by have := (HM.out.alloc (.cells #[.int .i64 x] 3)).size; omega) (by omega) (by omega)).mono ?_
          rintro e w2 ⟨rfl, g, cap', r1, r2, r3, r4, r5⟩
          have HA : Hid (Aft w w2 n (fd + 1) fd g cap' ps (some ⟨wr.heap.size, 0, none⟩)) := aft_of (HM.out.alloc (.cells #[.int .i64 x] 3)) r1 r3 r5
          have cv : w2.cell? ⟨wr.heap.size, 0, none⟩ = some (.int .i64 x) := (r5.cell (by simp) (by have := HM.out.size; show wr.heap.size ≠ _; omega) (by have := HM.out.size; simp only [ne_eq, Option.some.injEq, Value.ownBlock]; omega)).trans (by rw [World.cell?_alloc_new]; rfl)
          clear r2 r3 r4 r5
          have hwant : ((n : Int) < (fd : Int) + 1) = True := by simp; omega
          go_wp2_with fail
          go_loopw [16] (fun i wq => ∃ (k2 m : Nat), k2 ≤ (fd + 1) ∧ i = .int .i64 k2 ∧ wq = w2.drewN m) (fun i _ => (fd + 1) - (intOf i).toNat)
          case atStart => exact ⟨0, 0, Nat.zero_le _, rfl, rfl⟩
          case round =>
            obtain ⟨k2, m, hk2, rfl, rfl⟩ := hrel
            by_cases hlt2 : k2 < (fd + 1)
            · by_cases e1 : k2 = fd
              · have e2 : ((k2 : Int) == (fd : Int)) = true := by simp [e1]
                have c1 : w2.cell? ⟨g, k2, none⟩ = some (.pointer (some ⟨wr.heap.size, 0, none⟩)) := by rw [ptr_cell HA.out.own k2 hlt2]; simp [upd, e1]
                have hq := neq_same (some ⟨wr.heap.size, 0, none⟩)
                clear e1
                go_wp2
                go_roundw
                case rel => exact ⟨k2 + 1, m, by omega, by go_num, rfl⟩
                case measure => simp [intOf]; omega
              · have e2 : ((k2 : Int) == (fd : Int)) = false := by simp; omega
                by_cases h3 : k2 < n
                · have c1 : w2.cell? ⟨g, k2, none⟩ = some (.pointer (ps k2)) := by rw [ptr_cell HA.out.own k2 hlt2]; simp [upd, e1, h3]
                  have c2 := HA.out.orig k2 h3
                  have hq := neq_same (ps k2)
                  go_wp2
                  go_quiet (fail)
                  go_wp2
                  go_roundw
                  case rel => exact ⟨k2 + 1, _, by omega, by go_num, rfl⟩
                  case measure => simp [intOf]; omega
                · have c1 : w2.cell? ⟨g, k2, none⟩ = some (.pointer none) := by rw [ptr_cell HA.out.own k2 hlt2]; simp [upd, e1, h3]
                  go_wp2
                  go_roundw
                  case rel => exact ⟨k2 + 1, m, by omega, by go_num, rfl⟩
                  case measure => simp [intOf]; omega
            · have cq : w2.cell? ⟨g, fd, none⟩ = some (.pointer (some ⟨wr.heap.size, 0, none⟩)) := by rw [ptr_cell HA.out.own fd (by omega)]; simp [upd]
              have hq := neq_same (some ⟨wr.heap.size, 0, none⟩)
              go_wp2_with (go_at_call 6; refine (at_in g (fd + 1) cap' fd (some ⟨wr.heap.size, 0, none⟩) _ (by simpa using cq) (by omega) (by omega)).mono ?_; rintro e w' ⟨rfl, rfl⟩)
              go_ret
              exact ⟨rfl, HA.out.below.trans ⟨rfl, rfl, rfl, Nat.le_refl _, fun _ _ => rfl⟩⟩
        · have HM : Hid (Mid w wr n ps) := hmid
          clear hmid HS HC
          go_wp2_with fail
          refine (set_any (w.heap.size + 1) w.heap.size fd n n n (some ⟨w.heap.size, 0, none⟩) (some ⟨wr.heap.size, 0, none⟩) ps (wr.alloc (.cells #[.int .i64 x] 3)) (.inr ⟨by omega, rfl⟩) (HM.out.alloc (.cells #[.int .i64 x] 3)).box (HM.out.alloc (.cells #[.int .i64 x] 3)).boxf (rowIs_owns (HM.out.alloc (.cells #[.int .i64 x] 3)).row (Nat.le_refl _) (by omega)) (by have := (HM.out.alloc (.cells #[.int .i64 x] 3)).size; omega) (by simp [Value.ownBlock]) (by have := (HM.out.alloc (.cells #[.int .i64 x] 3)).size; omega) (by omega) (by omega)).mono ?_
          rintro e w2 ⟨rfl, g, cap', r1, r2, r3, r4, r5⟩
          have HA : Hid (Aft w w2 n n fd g cap' ps (some ⟨wr.heap.size, 0, none⟩)) := aft_of (HM.out.alloc (.cells #[.int .i64 x] 3)) r1 r3 r5
          have cv : w2.cell? ⟨wr.heap.size, 0, none⟩ = some (.int .i64 x) := (r5.cell (by simp) (by have := HM.out.size; show wr.heap.size ≠ _; omega) (by have := HM.out.size; simp only [ne_eq, Option.some.injEq, Value.ownBlock]; omega)).trans (by rw [World.cell?_alloc_new]; rfl)
          clear r2 r3 r4 r5
          have hwant : ((n : Int) < (fd : Int) + 1) = False := by simp; omega
          go_wp2_with fail
          go_loopw [16] (fun i wq => ∃ (k2 m : Nat), k2 ≤ n ∧ i = .int .i64 k2 ∧ wq = w2.drewN m) (fun i _ => n - (intOf i).toNat)
          case atStart => exact ⟨0, 0, Nat.zero_le _, rfl, rfl⟩
          case round =>
            obtain ⟨k2, m, hk2, rfl, rfl⟩ := hrel
            by_cases hlt2 : k2 < n
            · by_cases e1 : k2 = fd
              · have e2 : ((k2 : Int) == (fd : Int)) = true := by simp [e1]
                have c1 : w2.cell? ⟨g, k2, none⟩ = some (.pointer (some ⟨wr.heap.size, 0, none⟩)) := by rw [ptr_cell HA.out.own k2 hlt2]; simp [upd, e1]
                have hq := neq_same (some ⟨wr.heap.size, 0, none⟩)
                clear e1
                go_wp2
                go_roundw
                case rel => exact ⟨k2 + 1, m, by omega, by go_num, rfl⟩
                case measure => simp [intOf]; omega
              · have e2 : ((k2 : Int) == (fd : Int)) = false := by simp; omega
                by_cases h3 : k2 < n
                · have c1 : w2.cell? ⟨g, k2, none⟩ = some (.pointer (ps k2)) := by rw [ptr_cell HA.out.own k2 hlt2]; simp [upd, e1, h3]
                  have c2 := HA.out.orig k2 h3
                  have hq := neq_same (ps k2)
                  go_wp2
                  go_quiet (fail)
                  go_wp2
                  go_roundw
                  case rel => exact ⟨k2 + 1, _, by omega, by go_num, rfl⟩
                  case measure => simp [intOf]; omega
                · exact absurd hlt2 h3
            · have cq : w2.cell? ⟨g, fd, none⟩ = some (.pointer (some ⟨wr.heap.size, 0, none⟩)) := by rw [ptr_cell HA.out.own fd (by omega)]; simp [upd]
              have hq := neq_same (some ⟨wr.heap.size, 0, none⟩)
              go_wp2_with (go_at_call 6; refine (at_in g n cap' fd (some ⟨wr.heap.size, 0, none⟩) _ (by simpa using cq) (by omega) (by omega)).mono ?_; rintro e w' ⟨rfl, rfl⟩)
              go_ret
              exact ⟨rfl, HA.out.below.trans ⟨rfl, rfl, rfl, Nat.le_refl _, fun _ _ => rfl⟩⟩

end Go.Proofs.Ybulkanmu
