/-
  THE WALK of LawS1957AScript.
-/
import Derived.Test.YbulkanmuSocket
import Derived.Deep.OwnRows
import Derived.Deep.QuietTactic
import Derived.BigQuiet
namespace Go.Proofs.Ybulkanmu
open Go.RowKit
set_option linter.unusedVariables false

theorem Yba.info4 : (Yba.prog.info? 4).map (fun i => (i.zero, i.size, i.bytes)) = some (some (.bool false), 1, 1) := by kernel_rfl

/-- 512 zero values, under a name that the walk does not lay open. -/
def zeros (z : Value) : Array Value := madeCells #[z] 512
theorem make_vals (w : World) : (Instr.makeSlice 22 (.int .i64 512) (.int .i64 512)).run Yba.prog w = .ok (.slice (some ⟨w.heap.size, 0, none⟩) 512 512) (w.alloc (.cells (zeros (.int .i64 0)) 3)) :=
  run_make_row' (P := Yba.prog) 22 3 (.int .i64 0) 8 Yba.underlying22 Yba.info3 rfl .i64 .i64 512 (by omega) (by omega) w
theorem make_has (w : World) : (Instr.makeSlice 30 (.int .i64 512) (.int .i64 512)).run Yba.prog w = .ok (.slice (some ⟨w.heap.size, 0, none⟩) 512 512) (w.alloc (.cells (zeros (.bool false)) 4)) :=
  run_make_row' (P := Yba.prog) 30 4 (.bool false) 1 Yba.underlying30 Yba.info4 rfl .i64 .i64 512 (by omega) (by omega) w

/-- WHAT HOLDS BETWEEN THE ROUNDS OF THE FIRST LOOP. B: what the box's row holds; VA, H: what the two plain rows hold. -/
structure Scr (w wr : World) (L cap : Nat) (ao : Option Addr) (B : Nat → Option Addr) (VA : Nat → Int) (H : Nat → Bool) : Prop where
  box : wr.cell? ⟨w.heap.size + 1 + 1, 0, none⟩ = some (.slice ao L cap)
  boxf : wr.frozen? ⟨w.heap.size + 1 + 1, 0, none⟩ = false
  own : wr.ownsRow (w.heap.size + 3) 25 1 (.slice ao L cap) L (ptrs L B)
  out : ∀ j, L ≤ j → B j = none
  vals : wr.rowIs w.heap.size 3 512 (fun j => .int .i64 (VA j))
  has : wr.rowIs (w.heap.size + 1) 4 512 (fun j => .bool (H j))
  yes : ∀ j, H j = true → ∃ pb, B j = some ⟨pb, 0, none⟩ ∧ wr.cell? ⟨pb, 0, none⟩ = some (.int .i64 (VA j)) ∧ w.heap.size + 3 ≤ pb ∧ (Value.slice ao L cap).ownBlock ≠ some pb
  no : ∀ j, H j = false → B j = none
  below : Below w.heap.size w wr
  size : w.heap.size + 3 ≤ wr.heap.size
  len : L ≤ 512

theorem hid {p : Prop} (h : p) : Hid p := h
theorem scr_start (w : World) : Scr w (((w.alloc (.cells (zeros (.int .i64 0)) 3)).alloc (.cells (zeros (.bool false)) 4)).alloc (.cells #[.slice none 0 0] 24)) 0 0 none (fun _ => none) (fun _ => 0) (fun _ => false) := by
  have e1 : (w.alloc (.cells (zeros (.int .i64 0)) 3)).heap.size = w.heap.size + 1 := by simp
  have e2 : ((w.alloc (.cells (zeros (.int .i64 0)) 3)).alloc (.cells (zeros (.bool false)) 4)).heap.size = w.heap.size + 1 + 1 := by simp
  refine ⟨?_, ?_, World.ownsRow_nil _ _ _ _, fun _ _ => rfl, ?_, ?_, fun j hj => (by cases hj), fun _ _ => rfl, ?_, ?_, by omega⟩
  · rw [← e2, World.cell?_alloc_new]; rfl
  · rw [← e2]; exact frozen_of_row _ _ 0 _ _ (Go.heap_alloc_new _ _)
  · exact ((World.rowIs_made w (.int .i64 0) 512 3).alloc _).alloc _
  · rw [← e1]; exact (World.rowIs_made _ (.bool false) 512 4).alloc _
  · exact (((Below.refl _ w).alloc (Nat.le_refl _) _).alloc (by simp) _).alloc (by simp; omega) _
  · simp

theorem Scr.row_lt {w wr : World} {L cap : Nat} {ao : Option Addr} {B : Nat → Option Addr} {VA : Nat → Int} {H : Nat → Bool} (h : Scr w wr L cap ao B VA H) : ∀ k, (Value.slice ao L cap).ownBlock = some k → w.heap.size + 3 ≤ k ∧ k < wr.heap.size := h.own.lt

theorem Scr.alloc {w wr : World} {L cap : Nat} {ao : Option Addr} {B : Nat → Option Addr} {VA : Nat → Int} {H : Nat → Bool} (h : Scr w wr L cap ao B VA H) (o : Obj) : Scr w (wr.alloc o) L cap ao B VA H := by
  have hs := h.size
  refine ⟨?_, ?_, h.own.alloc o, h.out, h.vals.alloc o, h.has.alloc o, fun j hj => ?_, h.no, h.below.alloc (by omega) o, by simp; omega, h.len⟩
  · rw [World.cell?_alloc_lt _ _ _ (by show w.heap.size + 1 + 1 < _; omega)]
    exact h.box
  · exact (World.frozen?_of_block (Below.heap_alloc _ _ _ (by show w.heap.size + 1 + 1 < _; omega))).trans h.boxf
  · obtain ⟨pb, h1, h2, h3, h4⟩ := h.yes j hj
    have := World.block_lt_of_cell? wr _ h2
    exact ⟨pb, h1, by rw [World.cell?_alloc_lt _ _ _ this]; exact h2, h3, h4⟩

/-- set turns neither of the two plain rows, nor anything that was there. -/
theorem scr_mid {w wr w2 : World} {L cap : Nat} {ao : Option Addr} {B : Nat → Option Addr} {VA : Nat → Int} {H : Nat → Bool} (h : Scr w wr L cap ao B VA H)
    (r5 : Turned (w.heap.size + 1 + 1) (Value.slice ao L cap).ownBlock wr w2) : w2.rowIs w.heap.size 3 512 (fun j => .int .i64 (VA j)) ∧ w2.rowIs (w.heap.size + 1) 4 512 (fun j => .bool (H j)) ∧ Below w.heap.size w w2 := by
  have hs := h.size
  have hr := h.row_lt
  refine ⟨h.vals.of_block (r5.block _ (by omega) (by omega) fun e => ?_), h.has.of_block (r5.block _ (by omega) (by omega) fun e => ?_), r5.below h.below (by omega) (by omega) fun k e => ?_⟩
  · have := (hr _ e.symm).1; omega
  · have := (hr _ e.symm).1; omega
  · have := (hr _ e).1; omega

theorem owns_of_block {w w' : World} {base g n cap : Nat} {e : TypeId} {xs : List Value} (h : w.ownsRow base e 1 (.slice (some ⟨g, 0, none⟩) n cap) n xs) (hb : w'.heap[g]? = w.heap[g]?) : w'.ownsRow base e 1 (.slice (some ⟨g, 0, none⟩) n cap) n xs := by
  refine ⟨h.1, ?_⟩
  rcases h.2 with hv | ⟨g', cap', cur, hv, hbb, hg, r⟩
  · exact .inl hv
  · simp only [Value.slice.injEq, Option.some.injEq, Addr.mk.injEq, and_true, true_and] at hv
    obtain ⟨rfl, rfl⟩ := hv
    exact .inr ⟨g, cap, cur, rfl, hbb, hb.trans hg, r⟩

/-- ONE ROUND, whatever it was: behind set the two plain rows alone are written. -/
theorem scr_step {w wr w2 w3 : World} {L L' cap cap' g fd : Nat} {ao q : Option Addr} {B : Nat → Option Addr} {VA VA' : Nat → Int} {H H' : Nat → Bool} (h : Scr w wr L cap ao B VA H)
    (hL : L ≤ fd ∧ L' = fd + 1 ∨ fd < L ∧ L' = L) (hfd : fd < 512)
    (r1 : w2.cell? ⟨w.heap.size + 1 + 1, 0, none⟩ = some (.slice (some ⟨g, 0, none⟩) L' cap')) (r2 : w2.frozen? ⟨w.heap.size + 1 + 1, 0, none⟩ = false)
    (r3 : w2.ownsRow (w.heap.size + 3) 25 1 (.slice (some ⟨g, 0, none⟩) L' cap') L' (ptrs L' (upd B L fd q)))
    (r4 : (Value.slice ao L cap).ownBlock = some g ∨ wr.heap.size ≤ g) (r5 : Turned (w.heap.size + 1 + 1) (Value.slice ao L cap).ownBlock wr w2)
    (s1 : ∀ k, k ≠ w.heap.size → k ≠ w.heap.size + 1 → w3.heap[k]? = w2.heap[k]?) (s2 : Below w.heap.size w w3) (s3 : w2.heap.size ≤ w3.heap.size)
    (s4 : w3.rowIs w.heap.size 3 512 (fun j => .int .i64 (VA' j))) (s5 : w3.rowIs (w.heap.size + 1) 4 512 (fun j => .bool (H' j)))
    (u1 : ∀ j, j ≠ fd → VA' j = VA j ∧ H' j = H j)
    (u2 : H' fd = true → ∃ pb, q = some ⟨pb, 0, none⟩ ∧ wr.cell? ⟨pb, 0, none⟩ = some (.int .i64 (VA' fd)) ∧ w.heap.size + 3 ≤ pb ∧ (Value.slice ao L cap).ownBlock ≠ some pb) (u3 : H' fd = false → q = none) :
    Scr w w3 L' cap' (some ⟨g, 0, none⟩) (upd B L fd q) VA' H' := by
  have hs := h.size
  have hg : w.heap.size + 3 ≤ g := (r3.lt g rfl).1
  have hold : ∀ pb u, wr.cell? ⟨pb, 0, none⟩ = some u → w.heap.size + 3 ≤ pb → (Value.slice ao L cap).ownBlock ≠ some pb → w3.cell? ⟨pb, 0, none⟩ = some u ∧ (Value.slice (some ⟨g, 0, none⟩) L' cap').ownBlock ≠ some pb := by
    intro pb u h1 h2 h3
    have hlt : pb < wr.heap.size := World.block_lt_of_cell? wr _ h1
    refine ⟨?_, ?_⟩
    · rw [World.cell?_of_block (w := w2) (s1 pb (by omega) (by omega)), r5.cell (by exact hlt) (by show pb ≠ _; omega) (fun e => h3 e.symm)]
      exact h1
    · intro e
      simp only [Value.ownBlock, Option.some.injEq] at e
      rcases r4 with r | r
      · exact h3 (by rw [r, e])
      · omega
  refine ⟨?_, ?_, owns_of_block r3 (s1 g (by omega) (by omega)), fun j hj => ?_, s4, s5, fun j hj => ?_, fun j hj => ?_, s2, ?_, ?_⟩
  · rw [World.cell?_of_block (w := w2) (s1 _ (by show w.heap.size + 1 + 1 ≠ _; omega) (by show w.heap.size + 1 + 1 ≠ _; omega))]
    exact r1
  · rw [World.frozen?_of_block (w := w2) (s1 _ (by show w.heap.size + 1 + 1 ≠ _; omega) (by show w.heap.size + 1 + 1 ≠ _; omega))]
    exact r2
  · have h1 : j ≠ fd := by omega
    have h2 : ¬ j < L := by omega
    simp [upd, h1, h2]
  · by_cases e : j = fd
    · subst e
      obtain ⟨pb, h1, h2, h3, h4⟩ := u2 hj
      exact ⟨pb, by simp [upd, h1], (hold pb _ h2 h3 h4).1, h3, (hold pb _ h2 h3 h4).2⟩
    · rw [(u1 j e).2] at hj
      obtain ⟨pb, h1, h2, h3, h4⟩ := h.yes j hj
      have hjL : j < L := by
        rcases Nat.lt_or_ge j L with hl | hl
        · exact hl
        · rw [h.out j hl] at h1; cases h1
      exact ⟨pb, by simp [upd, e, hjL, h1], by rw [(u1 j e).1]; exact (hold pb _ h2 h3 h4).1, h3, (hold pb _ h2 h3 h4).2⟩
  · by_cases e : j = fd
    · subst e
      simp [upd, u3 hj]
    · rw [(u1 j e).2] at hj
      simp [upd, e, h.no j hj]
  · have := r5.size; omega
  · have := h.len; omega

set_option maxRecDepth 100000 in
set_option maxHeartbeats 1000000 in
theorem script_main (ad : Option Addr) (n cap0 : Nat) (F : Nat → Int) (P : Nat → Bool) (V : Nat → Int) (w : World) (hn : n ≤ 1024)
    (hc : ∀ k : Nat, k < n → ∃ b off : Nat, ad = some ⟨b, off, none⟩ ∧ b < w.heap.size ∧ w.cell? ⟨b, off + k * 3, none⟩ = some (.int .u16 (F k)) ∧ w.cell? ⟨b, off + k * 3 + 1, none⟩ = some (.bool (P k)) ∧ w.cell? ⟨b, off + k * 3 + 2, none⟩ = some (.int .i64 (V k)) ∧ 0 ≤ F k ∧ F k ≤ 65535) :
    Calls Yba.prog 4 #[.slice ad n cap0] w fun e w' => e = .returned (.bool true) ∧ Below w.heap.size w w' := by
  have hmk1 := make_vals
  have hmk2 := make_has
  have HC : Hid (∀ k : Nat, k < n → ∃ b off : Nat, ad = some ⟨b, off, none⟩ ∧ b < w.heap.size ∧ w.cell? ⟨b, off + k * 3, none⟩ = some (.int .u16 (F k)) ∧ w.cell? ⟨b, off + k * 3 + 1, none⟩ = some (.bool (P k)) ∧ w.cell? ⟨b, off + k * 3 + 2, none⟩ = some (.int .i64 (V k)) ∧ 0 ≤ F k ∧ F k ≤ 65535) := hc
  clear hc
  go_enter Yba.func4, Yba.ntmps4
  go_wp2
  clear hmk1 hmk2
  go_loopw [6, 7] (fun mx i wr => ∃ (k L cap : Nat) (ao : Option Addr) (B : Nat → Option Addr) (VA : Nat → Int) (H : Nat → Bool), k ≤ n ∧ mx = .int .i64 L ∧ i = .int .i64 k ∧ Scr w wr L cap ao B VA H) (fun _ i _ => n - (intOf i).toNat)
  case atStart => exact ⟨0, 0, 0, none, _, _, _, Nat.zero_le _, rfl, rfl, scr_start w⟩
  case round =>
    obtain ⟨k, L, cap, ao, B, VA, H, hk, rfl, rfl, hscr⟩ := hrel
    by_cases hlt : k < n
    · obtain ⟨b, off, rfl, hA, c1, c2, c3, hF0, hF1⟩ := HC.out k hlt
      have d1 : wr.cell? ⟨b, off + k * 3, none⟩ = _ := (hscr.below.cell hA).trans c1
      have d2 : wr.cell? ⟨b, off + k * 3 + 1, none⟩ = _ := (hscr.below.cell hA).trans c2
      have d3 : wr.cell? ⟨b, off + k * 3 + 2, none⟩ = _ := (hscr.below.cell hA).trans c3
      obtain ⟨fd, hfd⟩ : ∃ fd : Nat, F k % 512 = (fd : Int) := Int.eq_ofNat_of_zero_le (by omega)
      have hfd2 : fd < 512 := by omega
      have hsz := hscr.size
      have hlen := hscr.len
      have g1 : b < wr.heap.size := by omega
      have g2 : w.heap.size < wr.heap.size := by omega
      have g3 : w.heap.size + 1 < wr.heap.size := by omega
      have g4 : w.heap.size + 1 + 1 < wr.heap.size := by omega
      have HM : Hid (Scr w wr L cap ao B VA H) := hscr
      have HN : Hid (some (w.heap.size + 1 + 1) ≠ (Value.slice ao L cap).ownBlock) := fun e => by have := (hscr.row_lt _ e.symm).1; omega
      have HC3 : Hid (w.cell? ⟨b, off + k * 3 + 2, none⟩ = some (.int .i64 (V k))) := c3
      clear c1 c2 c3 hscr HC
      cases hP : P k
      · rw [hP] at d2
        clear hP
        by_cases hL : L ≤ fd
        · go_wp2_with fail
          refine (set_any (w.heap.size + 1 + 1) (w.heap.size + 3) fd L cap (fd + 1) ao none B wr (.inl ⟨hL, rfl⟩) HM.out.box HM.out.boxf HM.out.own (by omega) HN.out (by omega) (by omega) (by omega)).mono ?_
          rintro e w2 ⟨rfl, g, cap', r1, r2, r3, r4, r5⟩
          have hm := scr_mid HM.out r5
          have HB : Hid (Below w.heap.size w w2) := hm.2.2
          have HV : Hid (w2.rowIs w.heap.size 3 512 (fun j => .int .i64 (VA j))) := hm.1
          have HH : Hid (w2.rowIs (w.heap.size + 1) 4 512 (fun j => .bool (H j))) := hm.2.1
          have e2 := hm.2.1.cell hfd2
          have f2 := hm.2.1.frozen fd
          have HR := hid (And.intro r1 (And.intro r2 (And.intro r3 (And.intro r4 r5))))
          clear hm r1 r2 r3 r4 r5
          go_wp2_with fail
          go_roundw
          case rel =>
            obtain ⟨r1, r2, r3, r4, r5⟩ := HR.out
            refine ⟨k + 1, fd + 1, cap', _, _, VA, (fun j => if j = fd then false else H j), by omega, by go_num, by go_num, scr_step HM.out (.inl ⟨hL, rfl⟩) hfd2 r1 r2 r3 r4 r5 ?_ ?_ ?_ ?_ ?_ ?_ ?_ ?_⟩
            · exact fun j h1 h2 => Below.heap_setCell _ _ _ _ h2
            · exact HB.out.setCell (by show w.heap.size ≤ w.heap.size + 1; omega) _
            · simp [World.setCell]
            · exact HV.out.setOther (by show w.heap.size ≠ w.heap.size + 1; omega) _
            · exact (HH.out.set fd _).congr fun j _ => by by_cases e : j = fd <;> simp [e]
            · exact fun j h1 => ⟨rfl, by simp [h1]⟩
            · exact fun h1 => by simp at h1
            · exact fun _ => rfl
          case measure => simp [intOf]; omega
        · go_wp2_with fail
          refine (set_any (w.heap.size + 1 + 1) (w.heap.size + 3) fd L cap L ao none B wr (.inr ⟨by omega, rfl⟩) HM.out.box HM.out.boxf HM.out.own (by omega) HN.out (by omega) (by omega) (by omega)).mono ?_
          rintro e w2 ⟨rfl, g, cap', r1, r2, r3, r4, r5⟩
          have hm := scr_mid HM.out r5
          have HB : Hid (Below w.heap.size w w2) := hm.2.2
          have HV : Hid (w2.rowIs w.heap.size 3 512 (fun j => .int .i64 (VA j))) := hm.1
          have HH : Hid (w2.rowIs (w.heap.size + 1) 4 512 (fun j => .bool (H j))) := hm.2.1
          have e2 := hm.2.1.cell hfd2
          have f2 := hm.2.1.frozen fd
          have HR := hid (And.intro r1 (And.intro r2 (And.intro r3 (And.intro r4 r5))))
          clear hm r1 r2 r3 r4 r5
          go_wp2_with fail
          go_roundw
          case rel =>
            obtain ⟨r1, r2, r3, r4, r5⟩ := HR.out
            refine ⟨k + 1, L, cap', _, _, VA, (fun j => if j = fd then false else H j), by omega, by go_num, by go_num, scr_step HM.out (.inr ⟨by omega, rfl⟩) hfd2 r1 r2 r3 r4 r5 ?_ ?_ ?_ ?_ ?_ ?_ ?_ ?_⟩
            · exact fun j h1 h2 => Below.heap_setCell _ _ _ _ h2
            · exact HB.out.setCell (by show w.heap.size ≤ w.heap.size + 1; omega) _
            · simp [World.setCell]
            · exact HV.out.setOther (by show w.heap.size ≠ w.heap.size + 1; omega) _
            · exact (HH.out.set fd _).congr fun j _ => by by_cases e : j = fd <;> simp [e]
            · exact fun j h1 => ⟨rfl, by simp [h1]⟩
            · exact fun h1 => by simp at h1
            · exact fun _ => rfl
          case measure => simp [intOf]; omega
      · rw [hP] at d2
        clear hP
        by_cases hL : L ≤ fd
        · go_wp2_with fail
          refine (set_any (w.heap.size + 1 + 1) (w.heap.size + 3) fd L cap (fd + 1) ao (some ⟨wr.heap.size, 0, none⟩) B (wr.alloc (.cells #[.int .i64 (V k)] 3)) (.inl ⟨hL, rfl⟩) (HM.out.alloc (.cells #[.int .i64 (V k)] 3)).box (HM.out.alloc (.cells #[.int .i64 (V k)] 3)).boxf (HM.out.alloc (.cells #[.int .i64 (V k)] 3)).own (by simp; omega) HN.out (by simp; omega) (by omega) (by omega)).mono ?_
          rintro e w2 ⟨rfl, g, cap', r1, r2, r3, r4, r5⟩
          have hm := scr_mid (HM.out.alloc (.cells #[.int .i64 (V k)] 3)) r5
          have HB : Hid (Below w.heap.size w w2) := hm.2.2
          have HV : Hid (w2.rowIs w.heap.size 3 512 (fun j => .int .i64 (VA j))) := hm.1
          have HH : Hid (w2.rowIs (w.heap.size + 1) 4 512 (fun j => .bool (H j))) := hm.2.1
          have e1 := hm.1.cell hfd2
          have f1 := hm.1.frozen fd
          have e2 := hm.2.1.cell hfd2
          have f2 := hm.2.1.frozen fd
          have d4 : w2.cell? ⟨b, off + k * 3 + 2, none⟩ = some (.int .i64 (V k)) := (hm.2.2.cell hA).trans HC3.out
          have HR := hid (And.intro r1 (And.intro r2 (And.intro r3 (And.intro r4 r5))))
          clear hm r1 r2 r3 r4 r5
          go_wp2_with fail
          go_roundw
          case rel =>
            obtain ⟨r1, r2, r3, r4, r5⟩ := HR.out
            refine ⟨k + 1, fd + 1, cap', _, _, (fun j => if j = fd then V k else VA j), (fun j => if j = fd then true else H j), by omega, by go_num, by go_num, scr_step (HM.out.alloc (.cells #[.int .i64 (V k)] 3)) (.inl ⟨hL, rfl⟩) hfd2 r1 r2 r3 r4 r5 ?_ ?_ ?_ ?_ ?_ ?_ ?_ ?_⟩
            · exact fun j h1 h2 => (Below.heap_setCell _ _ _ _ h2).trans (Below.heap_setCell _ _ _ _ h1)
            · exact (HB.out.setCell (Nat.le_refl _) _).setCell (by show w.heap.size ≤ w.heap.size + 1; omega) _
            · simp [World.setCell]
            · exact ((HV.out.set fd _).setOther (by show w.heap.size ≠ w.heap.size + 1; omega) _).congr fun j _ => by by_cases e : j = fd <;> simp [e]
            · exact ((HH.out.setOther (by show w.heap.size + 1 ≠ w.heap.size; omega) _).set fd _).congr fun j _ => by by_cases e : j = fd <;> simp [e]
            · exact fun j h1 => ⟨by simp [h1], by simp [h1]⟩
            · exact fun h1 => ⟨wr.heap.size, rfl, by rw [World.cell?_alloc_new]; simp, by omega, fun e => by have := (HM.out.row_lt _ e).2; omega⟩
            · exact fun h1 => by simp at h1
          case measure => simp [intOf]; omega
        · go_wp2_with fail
          refine (set_any (w.heap.size + 1 + 1) (w.heap.size + 3) fd L cap L ao (some ⟨wr.heap.size, 0, none⟩) B (wr.alloc (.cells #[.int .i64 (V k)] 3)) (.inr ⟨by omega, rfl⟩) (HM.out.alloc (.cells #[.int .i64 (V k)] 3)).box (HM.out.alloc (.cells #[.int .i64 (V k)] 3)).boxf (HM.out.alloc (.cells #[.int .i64 (V k)] 3)).own (by simp; omega) HN.out (by simp; omega) (by omega) (by omega)).mono ?_
          rintro e w2 ⟨rfl, g, cap', r1, r2, r3, r4, r5⟩
          have hm := scr_mid (HM.out.alloc (.cells #[.int .i64 (V k)] 3)) r5
          have HB : Hid (Below w.heap.size w w2) := hm.2.2
          have HV : Hid (w2.rowIs w.heap.size 3 512 (fun j => .int .i64 (VA j))) := hm.1
          have HH : Hid (w2.rowIs (w.heap.size + 1) 4 512 (fun j => .bool (H j))) := hm.2.1
          have e1 := hm.1.cell hfd2
          have f1 := hm.1.frozen fd
          have e2 := hm.2.1.cell hfd2
          have f2 := hm.2.1.frozen fd
          have d4 : w2.cell? ⟨b, off + k * 3 + 2, none⟩ = some (.int .i64 (V k)) := (hm.2.2.cell hA).trans HC3.out
          have HR := hid (And.intro r1 (And.intro r2 (And.intro r3 (And.intro r4 r5))))
          clear hm r1 r2 r3 r4 r5
          go_wp2_with fail
          go_roundw
          case rel =>
            obtain ⟨r1, r2, r3, r4, r5⟩ := HR.out
            refine ⟨k + 1, L, cap', _, _, (fun j => if j = fd then V k else VA j), (fun j => if j = fd then true else H j), by omega, by go_num, by go_num, scr_step (HM.out.alloc (.cells #[.int .i64 (V k)] 3)) (.inr ⟨by omega, rfl⟩) hfd2 r1 r2 r3 r4 r5 ?_ ?_ ?_ ?_ ?_ ?_ ?_ ?_⟩
            · exact fun j h1 h2 => (Below.heap_setCell _ _ _ _ h2).trans (Below.heap_setCell _ _ _ _ h1)
            · exact (HB.out.setCell (Nat.le_refl _) _).setCell (by show w.heap.size ≤ w.heap.size + 1; omega) _
            · simp [World.setCell]
            · exact ((HV.out.set fd _).setOther (by show w.heap.size ≠ w.heap.size + 1; omega) _).congr fun j _ => by by_cases e : j = fd <;> simp [e]
            · exact ((HH.out.setOther (by show w.heap.size + 1 ≠ w.heap.size; omega) _).set fd _).congr fun j _ => by by_cases e : j = fd <;> simp [e]
            · exact fun j h1 => ⟨by simp [h1], by simp [h1]⟩
            · exact fun h1 => ⟨wr.heap.size, rfl, by rw [World.cell?_alloc_new]; simp, by omega, fun e => by have := (HM.out.row_lt _ e).2; omega⟩
            · exact fun h1 => by simp at h1
          case measure => simp [intOf]; omega
    · clear HC
      have HM : Hid (Scr w wr L cap ao B VA H) := hscr
      have c0 := hscr.box
      have hlen := hscr.len
      clear hscr
      go_wp2_with fail
      go_loopw [10] (fun i wq => ∃ (k2 m : Nat), k2 ≤ 512 ∧ i = .int .i64 k2 ∧ wq = wr.drewN m) (fun i _ => 512 - (intOf i).toNat)
      case atStart => exact ⟨0, 0, Nat.zero_le _, rfl, rfl⟩
      case round =>
        obtain ⟨k2, m, hk2, rfl, rfl⟩ := hrel
        by_cases hlt2 : k2 < 512
        · have c1 := HM.out.has.cell hlt2
          have c2 := HM.out.vals.cell hlt2
          cases hH : H k2
          · rw [hH] at c1
            have HB := hid (HM.out.no k2 hH)
            clear hH
            go_wp2_with fail
            refine (at_any (w.heap.size + 3) L cap k2 ao B _ (by exact HM.out.own) (HM.out.out k2) (by omega) (by omega)).mono ?_
            rw [HB.out]
            rintro e w' ⟨rfl, rfl⟩
            go_wp2
            go_roundw
            case rel => exact ⟨k2 + 1, m, by omega, by go_num, rfl⟩
            case measure => simp [intOf]; omega
          · rw [hH] at c1
            obtain ⟨pb, h1, h2, h3, h4⟩ := HM.out.yes k2 hH
            have HB := hid h1
            clear hH h1 h3 h4
            go_wp2_with fail
            refine (at_any (w.heap.size + 3) L cap k2 ao B _ (by exact HM.out.own) (HM.out.out k2) (by omega) (by omega)).mono ?_
            rw [HB.out]
            rintro e w' ⟨rfl, rfl⟩
            go_wp2
            go_quiet (fail)
            go_wp2
            go_roundw
            case rel => exact ⟨k2 + 1, _, by omega, by go_num, rfl⟩
            case measure => simp [intOf]; omega
        · go_wp2
          go_ret
          exact ⟨rfl, HM.out.below.trans ⟨rfl, rfl, rfl, Nat.le_refl _, fun _ _ => rfl⟩⟩

end Go.Proofs.Ybulkanmu
