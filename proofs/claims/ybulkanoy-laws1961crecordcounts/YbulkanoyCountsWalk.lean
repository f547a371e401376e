/-
  THE WALK of LawS1961CRecordCounts.
-/
import Derived.Test.YbulkanoyArrays
namespace Go.Proofs.Ybulkanoy
open Go.RowKit
set_option linter.unusedVariables false

theorem hid2 {p : Prop} (h : p) : Hid p := h

theorem equal24_top (C : Nat → Int) (N M : Int) (w : World) : (Op.equalIn 10000 24 (.agg (arr 7296 (hist C N M))) (.agg (arr 7296 (fun i => .int .u64 (C i))))).run Yba.prog w = .ok true w :=
  equal24 9998 _ _ C w (fun i hi => by rw [arr_get _ _ _ hi, hist_count i hi]) (fun i hi => by rw [arr_get _ _ _ hi])

theorem zzbucket_zero (w : World) : Calls Yba.prog 6 #[.int .u64 0] w fun e w' => e = .returned (.int .i64 (bk 0)) ∧ w = w' := zzbucket_any 0 w (by omega)

/-- WHAT HOLDS BETWEEN THE ROUNDS: the histogram and the law's own array hold the same counts; nothing that was there has turned. -/
structure Cnt (w wr : World) (k : Nat) (C : Nat → Int) (M : Int) : Prop where
  ra : wr.rowIs w.heap.size 27 7298 (hist C k M)
  rb : wr.rowIs (w.heap.size + 1) 24 7296 (fun i => .int .u64 (C i))
  cs : ∀ i, 0 ≤ C i ∧ C i ≤ k
  mx : 0 ≤ M ∧ M ≤ 9223372036854775807
  below : Below w.heap.size w wr
  size : w.heap.size + 2 ≤ wr.heap.size

theorem cnt_start (w : World) : Cnt w ((w.alloc (.cells (arr 7298 (hist (fun _ => 0) 0 0)) 27)).alloc (.cells (arr 7296 (fun _ => .int .u64 0)) 24)) 0 (fun _ => 0) 0 := by
  have e1 : (w.alloc (.cells (arr 7298 (hist (fun _ => 0) 0 0)) 27)).heap.size = w.heap.size + 1 := by simp
  refine ⟨(rowIs_arr w 7298 27 _).alloc _, ?_, fun _ => ⟨Int.le_refl _, Int.le_refl _⟩, ⟨by omega, by omega⟩, ((Below.refl _ w).alloc (Nat.le_refl _) _).alloc (by simp) _, by simp⟩
  rw [← e1]
  exact rowIs_arr _ 7296 24 _

/-- Record turns neither the law's own array nor anything that was there. -/
theorem cnt_mid {w wr w1 : World} {k : Nat} {C : Nat → Int} {M : Int} (h : Cnt w wr k C M) (h1 : Wrote w.heap.size wr w1) : w1.rowIs (w.heap.size + 1) 24 7296 (fun i => .int .u64 (C i)) :=
  h.rb.of_block (h1.block _ (by omega))

theorem cnt_step {w wr w1 : World} {k j : Nat} {C : Nat → Int} {M M' : Int} (h : Cnt w wr k C M) (r1 : w1.rowIs w.heap.size 27 7298 (hist (bump C j) (k + 1) M')) (h1 : Wrote w.heap.size wr w1) (hm : 0 ≤ M' ∧ M' ≤ 9223372036854775807) :
    Cnt w (w1.setCell ⟨w.heap.size + 1, j, none⟩ (.int .u64 (C j + 1))) (k + 1) (bump C j) M' := by
  have e : ((k + 1 : Nat) : Int) = (k : Int) + 1 := by omega
  refine ⟨?_, ?_, ?_, hm, ?_, ?_⟩
  · rw [e]
    exact r1.setOther (by show w.heap.size ≠ w.heap.size + 1; omega) _
  · refine ((cnt_mid h h1).set j _).congr fun i _ => ?_
    unfold bump
    by_cases e : i = j
    · subst e; simp
    · simp [e]
  · intro i
    have := h.cs i
    unfold bump
    split <;> omega
  · refine Below.setCell (h.below.trans ⟨h1.os, h1.tape, h1.output, by rw [h1.size]; exact Nat.le_refl _, fun k hk => h1.block k (by omega)⟩) (by show w.heap.size ≤ w.heap.size + 1; omega) _
  · have := h.size
    simp [World.setCell, h1.size]
    omega

set_option maxRecDepth 100000 in
set_option maxHeartbeats 1000000 in
theorem counts_main (ad : Option Addr) (n cap0 : Nat) (Z : Nat → Int) (w : World) (hn : n ≤ 1024)
    (hc : ∀ k : Nat, k < n → ∃ b off : Nat, ad = some ⟨b, off, none⟩ ∧ b < w.heap.size ∧ w.cell? ⟨b, off + k, none⟩ = some (.int .i64 (Z k)) ∧ -9223372036854775808 ≤ Z k ∧ Z k ≤ 9223372036854775807) :
    Calls Yba.prog 3 #[.slice ad n cap0] w fun e w' => e = .returned (.bool true) ∧ Below w.heap.size w w' := by
  have HC := hid2 hc
  clear hc
  go_enter Yba.func3, Yba.ntmps3
  go_wp2_with (first | (refine wpList_alloc_agg rfl 27 rfl _ zero27 ?_) | (refine wpList_alloc_agg rfl 24 rfl _ zero24 ?_))
  go_loopw [5, 15] (fun mx i wr => ∃ (k : Nat) (C : Nat → Int) (M : Int), k ≤ n ∧ i = .int .i64 k ∧ mx = .int .i64 M ∧ Cnt w wr k C M) (fun _ i _ => n - (intOf i).toNat)
  case atStart => exact ⟨0, _, _, Nat.zero_le _, rfl, rfl, cnt_start w⟩
  case round =>
    obtain ⟨k, C, M, hk, rfl, rfl, hcnt⟩ := hrel
    have HT := hid2 hcnt
    have hm0 := hcnt.mx.1
    have hm1 := hcnt.mx.2
    by_cases hlt : k < n
    · obtain ⟨b, off, rfl, hA, hcA, hz0, hz1⟩ := HC.out k hlt
      have hcA' : wr.cell? ⟨b, off + k, none⟩ = some (.int .i64 (Z k)) := (hcnt.below.cell hA).trans hcA
      clear hcA hcnt HC
      obtain ⟨v, hv⟩ : ∃ v : Int, Z k = v := ⟨_, rfl⟩
      rw [hv] at hcA' hz0 hz1
      clear hv
      by_cases hp : 0 < v
      · obtain ⟨m, rfl⟩ := Int.eq_ofNat_of_zero_le (show 0 ≤ v by omega)
        have hmx : m < 9223372036854775808 := by omega
        by_cases hgt : M < (m : Int)
        · have hbk := bk_lt m (by omega)
          obtain ⟨j, hj⟩ : ∃ j, j = bk m := ⟨_, rfl⟩
          rw [← hj] at hbk
          have HJ := hid2 hj
          clear hj
          have bC := HT.out.cs j
          go_wp2_with fail
          refine (record_any w.heap.size (m : Int) C k M wr HT.out.ra (by omega) (by omega) (fun i => ⟨(HT.out.cs i).1, by have := (HT.out.cs i).2; omega⟩) (by omega) (by omega)).mono ?_
          rintro e w1 ⟨rfl, r1, h1⟩
          rw [show ((m : Int)).toNat = m by omega, ← HJ.out, show max M ((m : Nat) : Int) = (m : Int) by omega] at r1
          have R1 := hid2 (And.intro r1 h1)
          have c1 := (cnt_mid HT.out h1).cell hbk
          have f1 := (cnt_mid HT.out h1).frozen j
          have hj1 : (j : Int) < 7296 := by omega
          clear r1 h1
          go_wp2_with fail
          refine (zzbucket_any m _ hmx).mono ?_
          rw [← HJ.out]
          rintro e w' ⟨rfl, rfl⟩
          go_wp2_with fail
          go_roundw
          case rel => exact ⟨k + 1, _, _, by omega, by go_num, rfl, cnt_step HT.out R1.out.1 R1.out.2 ⟨by omega, by omega⟩⟩
          case measure => simp [intOf]; omega
        · have hbk := bk_lt m (by omega)
          obtain ⟨j, hj⟩ : ∃ j, j = bk m := ⟨_, rfl⟩
          rw [← hj] at hbk
          have HJ := hid2 hj
          clear hj
          have bC := HT.out.cs j
          go_wp2_with fail
          refine (record_any w.heap.size (m : Int) C k M wr HT.out.ra (by omega) (by omega) (fun i => ⟨(HT.out.cs i).1, by have := (HT.out.cs i).2; omega⟩) (by omega) (by omega)).mono ?_
          rintro e w1 ⟨rfl, r1, h1⟩
          rw [show ((m : Int)).toNat = m by omega, ← HJ.out, show max M ((m : Nat) : Int) = M by omega] at r1
          have R1 := hid2 (And.intro r1 h1)
          have c1 := (cnt_mid HT.out h1).cell hbk
          have f1 := (cnt_mid HT.out h1).frozen j
          have hj1 : (j : Int) < 7296 := by omega
          clear r1 h1
          go_wp2_with fail
          refine (zzbucket_any m _ hmx).mono ?_
          rw [← HJ.out]
          rintro e w' ⟨rfl, rfl⟩
          go_wp2_with fail
          go_roundw
          case rel => exact ⟨k + 1, _, _, by omega, by go_num, rfl, cnt_step HT.out R1.out.1 R1.out.2 ⟨by omega, by omega⟩⟩
          case measure => simp [intOf]; omega
      · have hbk := bk_lt 0 (by omega)
        obtain ⟨j, hj⟩ : ∃ j, j = bk 0 := ⟨_, rfl⟩
        rw [← hj] at hbk
        have HJ := hid2 hj
        clear hj
        have bC := HT.out.cs j
        go_wp2_with fail
        refine (record_any w.heap.size v C k M wr HT.out.ra (by omega) (by omega) (fun i => ⟨(HT.out.cs i).1, by have := (HT.out.cs i).2; omega⟩) (by omega) (by omega)).mono ?_
        rintro e w1 ⟨rfl, r1, h1⟩
        rw [show (v).toNat = 0 by omega, ← HJ.out, show max M ((0 : Nat) : Int) = M by omega] at r1
        have R1 := hid2 (And.intro r1 h1)
        have c1 := (cnt_mid HT.out h1).cell hbk
        have f1 := (cnt_mid HT.out h1).frozen j
        have hj1 : (j : Int) < 7296 := by omega
        clear r1 h1
        go_wp2_with fail
        refine (zzbucket_zero _).mono ?_
        rw [← HJ.out]
        rintro e w' ⟨rfl, rfl⟩
        go_wp2_with fail
        go_roundw
        case rel => exact ⟨k + 1, _, _, by omega, by go_num, rfl, cnt_step HT.out R1.out.1 R1.out.2 ⟨by omega, by omega⟩⟩
        case measure => simp [intOf]; omega
    · obtain rfl : k = n := by omega
      have c1 := hcnt.ra.cell (i := 7296) (by omega)
      have c2 := hcnt.ra.cell (i := 7297) (by omega)
      rw [hist_num] at c1
      rw [hist_max] at c2
      clear hcnt HC
      go_wp2_with (first | (refine wpList_load_agg rfl 24 (.tmp 41) rfl ⟨w.heap.size, 0, none⟩ rfl _ (load_agg 24 7296 _ _ _ (Yba.isAgg24 _) (Yba.sizeOf24 _) (fun i hi => HT.out.ra.cell (by omega))) ?_) | (refine wpList_load_agg rfl 24 (.tmp 4) rfl ⟨w.heap.size + 1, 0, none⟩ rfl _ (load_agg 24 7296 _ _ _ (Yba.isAgg24 _) (Yba.sizeOf24 _) (fun i hi => HT.out.rb.cell hi)) ?_) | (refine wpList_eql_agg rfl 24 24 (.tmp 42) (.tmp 43) rfl _ _ rfl rfl Yba.eqGuardType24 true (equal24_top _ _ _ _) ?_) | (go_at_call 7; refine (count_any _ _ _ _ _ HT.out.ra).mono ?_; rintro e w' ⟨rfl, rfl⟩))
      go_ret
      exact ⟨rfl, HT.out.below⟩

end Go.Proofs.Ybulkanoy
