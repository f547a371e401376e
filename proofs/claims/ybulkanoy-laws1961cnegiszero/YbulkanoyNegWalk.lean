/-
  THE WALK of LawS1961CNegIsZero.
-/
import Derived.Test.YbulkanoyArrays
namespace Go.Proofs.Ybulkanoy
open Go.RowKit
set_option linter.unusedVariables false

theorem equal27_top (C : Nat → Int) (N M : Int) (w : World) : (Op.equalIn 10000 27 (.agg (arr 7298 (hist C N M))) (.agg (arr 7298 (hist C N M)))).run Yba.prog w = .ok true w :=
  equal27 9997 _ C N M w (fun i hi => by rw [arr_get _ _ _ (by omega), hist_count i hi]) (by rw [arr_get _ _ _ (by omega), hist_num]) (by rw [arr_get _ _ _ (by omega), hist_max])

/-- WHAT HOLDS BETWEEN THE ROUNDS: both histograms hold the same numbers; nothing that was there has turned. -/
structure Two (w wr : World) (k : Nat) (C : Nat → Int) (M : Int) : Prop where
  ra : wr.rowIs w.heap.size 27 7298 (hist C k M)
  rb : wr.rowIs (w.heap.size + 1) 27 7298 (hist C k M)
  cs : ∀ i, 0 ≤ C i ∧ C i ≤ k
  below : Below w.heap.size w wr
  size : w.heap.size + 2 ≤ wr.heap.size

theorem Wrote.below {b B : Nat} {w0 w w' : World} (h : Wrote b w w') (hb : Below B w0 w) (hB : B ≤ b) : Below B w0 w' :=
  hb.trans ⟨h.os, h.tape, h.output, by rw [h.size]; exact Nat.le_refl _, fun k hk => h.block k (by omega)⟩

theorem two_start (w : World) : Two w ((w.alloc (.cells (arr 7298 (hist (fun _ => 0) 0 0)) 27)).alloc (.cells (arr 7298 (hist (fun _ => 0) 0 0)) 27)) 0 (fun _ => 0) 0 := by
  have e1 : (w.alloc (.cells (arr 7298 (hist (fun _ => 0) 0 0)) 27)).heap.size = w.heap.size + 1 := by simp
  refine ⟨(rowIs_arr w 7298 27 _).alloc _, ?_, fun _ => ⟨Int.le_refl _, Int.le_refl _⟩, ((Below.refl _ w).alloc (Nat.le_refl _) _).alloc (by simp) _, by simp⟩
  rw [← e1]
  exact rowIs_arr _ 7298 27 _

theorem bump_le {C : Nat → Int} {k : Nat} (h : ∀ i, 0 ≤ C i ∧ C i ≤ k) (j : Nat) : ∀ i, 0 ≤ bump C j i ∧ bump C j i ≤ ((k + 1 : Nat) : Int) := by
  intro i
  have := h i
  unfold bump
  split <;> omega

/-- The second of two calls of Record finds its histogram as it was. -/
theorem two_mid {w wr w1 : World} {k : Nat} {C : Nat → Int} {M : Int} (h : Two w wr k C M) (h1 : Wrote w.heap.size wr w1) : w1.rowIs (w.heap.size + 1) 27 7298 (hist C k M) :=
  h.rb.of_block (h1.block _ (by omega))

theorem two_step {w wr w1 w2 : World} {k j : Nat} {C : Nat → Int} {M M' : Int} (h : Two w wr k C M) (r1 : w1.rowIs w.heap.size 27 7298 (hist (bump C j) (k + 1) M')) (h1 : Wrote w.heap.size wr w1)
    (r2 : w2.rowIs (w.heap.size + 1) 27 7298 (hist (bump C j) (k + 1) M')) (h2 : Wrote (w.heap.size + 1) w1 w2) : Two w w2 (k + 1) (bump C j) M' := by
  have e : ((k + 1 : Nat) : Int) = (k : Int) + 1 := by omega
  refine ⟨by rw [e]; exact r1.of_block (h2.block _ (by omega)), by rw [e]; exact r2, bump_le h.cs j, h2.below (h1.below h.below (Nat.le_refl _)) (by omega), ?_⟩
  rw [h2.size, h1.size]
  exact h.size

theorem hid {p : Prop} (h : p) : Hid p := h

set_option maxRecDepth 100000 in
set_option maxHeartbeats 1000000 in
theorem neg_main (ad : Option Addr) (n cap0 : Nat) (Z : Nat → Int) (d D : Int) (w : World) (hn : n ≤ 1024) (hD : 0 < d ∧ D = -d ∨ d ≤ 0 ∧ D = d) (hd0 : -9223372036854775808 ≤ d) (hd1 : d ≤ 9223372036854775807)
    (hc : ∀ k : Nat, k < n → ∃ b off : Nat, ad = some ⟨b, off, none⟩ ∧ b < w.heap.size ∧ w.cell? ⟨b, off + k, none⟩ = some (.int .i64 (Z k)) ∧ -9223372036854775808 ≤ Z k ∧ Z k ≤ 9223372036854775807) :
    Calls Yba.prog 4 #[.slice ad n cap0, .int .i64 d] w fun e w' => e = .returned (.bool true) ∧ Below w.heap.size w w' := by
  have HC := hid hc
  clear hc
  rcases hD with ⟨hd, rfl⟩ | ⟨hd, rfl⟩
  · go_enter Yba.func4, Yba.ntmps4
    go_wp2_with (refine wpList_alloc_agg rfl 27 rfl _ zero27 ?_)
    go_loopw [18] (fun i wr => ∃ (k : Nat) (C : Nat → Int) (M : Int), k ≤ n ∧ i = .int .i64 k ∧ Two w wr k C M) (fun i _ => n - (intOf i).toNat)
    case atStart => exact ⟨0, _, _, Nat.zero_le _, rfl, two_start w⟩
    case round =>
      obtain ⟨k, C, M, hk, rfl, htwo⟩ := hrel
      have HT := hid htwo
      by_cases hlt : k < n
      · obtain ⟨b, off, rfl, hA, hcA, hz0, hz1⟩ := HC.out k hlt
        have hcA' : wr.cell? ⟨b, off + k, none⟩ = some (.int .i64 (Z k)) := (htwo.below.cell hA).trans hcA
        clear hcA htwo HC
        go_wp2_with fail
        refine (record_any w.heap.size (Z k) C k M wr HT.out.ra hz0 hz1 (fun i => ⟨(HT.out.cs i).1, by have := (HT.out.cs i).2; omega⟩) (by omega) (by omega)).mono ?_
        rintro e w1 ⟨rfl, r1, h1⟩
        have R1 := hid (And.intro r1 h1)
        clear r1 h1
        go_wp2_with fail
        refine (record_any (w.heap.size + 1) (Z k) C k M w1 (two_mid HT.out R1.out.2) hz0 hz1 (fun i => ⟨(HT.out.cs i).1, by have := (HT.out.cs i).2; omega⟩) (by omega) (by omega)).mono ?_
        rintro e w2 ⟨rfl, r2, h2⟩
        have R2 := hid (And.intro r2 h2)
        clear r2 h2
        go_wp2_with fail
        go_roundw
        case rel => exact ⟨k + 1, _, _, by omega, by go_num, two_step HT.out R1.out.1 R1.out.2 R2.out.1 R2.out.2⟩
        case measure => simp [intOf]; omega
      · obtain rfl : k = n := by omega
        clear htwo HC
        go_wp2_with fail
        refine (record_any w.heap.size (-d) C k M wr HT.out.ra (by omega) (by omega) (fun i => ⟨(HT.out.cs i).1, by have := (HT.out.cs i).2; omega⟩) (by omega) (by omega)).mono ?_
        rw [show (-d).toNat = 0 by omega]
        rintro e w1 ⟨rfl, r1, h1⟩
        have R1 := hid (And.intro r1 h1)
        clear r1 h1
        go_wp2_with fail
        refine (record_any (w.heap.size + 1) 0 C k M w1 (two_mid HT.out R1.out.2) (by omega) (by omega) (fun i => ⟨(HT.out.cs i).1, by have := (HT.out.cs i).2; omega⟩) (by omega) (by omega)).mono ?_
        rw [show (0 : Int).toNat = 0 from rfl]
        rintro e w2 ⟨rfl, r2, h2⟩
        have HA := hid (two_step HT.out R1.out.1 R1.out.2 r2 h2)
        have c1 := HA.out.ra.cell (i := 7296) (by omega)
        rw [hist_num] at c1
        clear r2 h2
        go_wp2_with (first | (refine wpList_load_agg rfl 27 (.tmp 5) rfl ⟨w.heap.size, 0, none⟩ rfl _ (load_agg 27 7298 _ _ _ (Yba.isAgg27 _) (Yba.sizeOf27 _) (fun i hi => HA.out.ra.cell hi)) ?_) | (refine wpList_load_agg rfl 27 (.tmp 6) rfl ⟨w.heap.size + 1, 0, none⟩ rfl _ (load_agg 27 7298 _ _ _ (Yba.isAgg27 _) (Yba.sizeOf27 _) (fun i hi => HA.out.rb.cell hi)) ?_) | (refine wpList_eql_agg rfl 27 27 (.tmp 30) (.tmp 31) rfl _ _ rfl rfl Yba.eqGuardType27 true (equal27_top _ _ _ _) ?_))
        go_ret
        exact ⟨rfl, HA.out.below⟩
  · go_enter Yba.func4, Yba.ntmps4
    go_wp2_with (refine wpList_alloc_agg rfl 27 rfl _ zero27 ?_)
    go_loopw [18] (fun i wr => ∃ (k : Nat) (C : Nat → Int) (M : Int), k ≤ n ∧ i = .int .i64 k ∧ Two w wr k C M) (fun i _ => n - (intOf i).toNat)
    case atStart => exact ⟨0, _, _, Nat.zero_le _, rfl, two_start w⟩
    case round =>
      obtain ⟨k, C, M, hk, rfl, htwo⟩ := hrel
      have HT := hid htwo
      by_cases hlt : k < n
      · obtain ⟨b, off, rfl, hA, hcA, hz0, hz1⟩ := HC.out k hlt
        have hcA' : wr.cell? ⟨b, off + k, none⟩ = some (.int .i64 (Z k)) := (htwo.below.cell hA).trans hcA
        clear hcA htwo HC
        go_wp2_with fail
        refine (record_any w.heap.size (Z k) C k M wr HT.out.ra hz0 hz1 (fun i => ⟨(HT.out.cs i).1, by have := (HT.out.cs i).2; omega⟩) (by omega) (by omega)).mono ?_
        rintro e w1 ⟨rfl, r1, h1⟩
        have R1 := hid (And.intro r1 h1)
        clear r1 h1
        go_wp2_with fail
        refine (record_any (w.heap.size + 1) (Z k) C k M w1 (two_mid HT.out R1.out.2) hz0 hz1 (fun i => ⟨(HT.out.cs i).1, by have := (HT.out.cs i).2; omega⟩) (by omega) (by omega)).mono ?_
        rintro e w2 ⟨rfl, r2, h2⟩
        have R2 := hid (And.intro r2 h2)
        clear r2 h2
        go_wp2_with fail
        go_roundw
        case rel => exact ⟨k + 1, _, _, by omega, by go_num, two_step HT.out R1.out.1 R1.out.2 R2.out.1 R2.out.2⟩
        case measure => simp [intOf]; omega
      · obtain rfl : k = n := by omega
        clear htwo HC
        go_wp2_with fail
        refine (record_any w.heap.size (D) C k M wr HT.out.ra (by omega) (by omega) (fun i => ⟨(HT.out.cs i).1, by have := (HT.out.cs i).2; omega⟩) (by omega) (by omega)).mono ?_
        rw [show (D).toNat = 0 by omega]
        rintro e w1 ⟨rfl, r1, h1⟩
        have R1 := hid (And.intro r1 h1)
        clear r1 h1
        go_wp2_with fail
        refine (record_any (w.heap.size + 1) 0 C k M w1 (two_mid HT.out R1.out.2) (by omega) (by omega) (fun i => ⟨(HT.out.cs i).1, by have := (HT.out.cs i).2; omega⟩) (by omega) (by omega)).mono ?_
        rw [show (0 : Int).toNat = 0 from rfl]
        rintro e w2 ⟨rfl, r2, h2⟩
        have HA := hid (two_step HT.out R1.out.1 R1.out.2 r2 h2)
        have c1 := HA.out.ra.cell (i := 7296) (by omega)
        rw [hist_num] at c1
        clear r2 h2
        go_wp2_with (first | (refine wpList_load_agg rfl 27 (.tmp 5) rfl ⟨w.heap.size, 0, none⟩ rfl _ (load_agg 27 7298 _ _ _ (Yba.isAgg27 _) (Yba.sizeOf27 _) (fun i hi => HA.out.ra.cell hi)) ?_) | (refine wpList_load_agg rfl 27 (.tmp 6) rfl ⟨w.heap.size + 1, 0, none⟩ rfl _ (load_agg 27 7298 _ _ _ (Yba.isAgg27 _) (Yba.sizeOf27 _) (fun i hi => HA.out.rb.cell hi)) ?_) | (refine wpList_eql_agg rfl 27 27 (.tmp 30) (.tmp 31) rfl _ _ rfl rfl Yba.eqGuardType27 true (equal27_top _ _ _ _) ?_))
        go_ret
        exact ⟨rfl, HA.out.below⟩

end Go.Proofs.Ybulkanoy
