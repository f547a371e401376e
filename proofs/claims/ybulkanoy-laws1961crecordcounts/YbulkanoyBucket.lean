/-
  THE CONTRACTS of bucket (by math/bits.Len64's own, off the shelf) and of the law's restatement of it: both answer 'bk'.
-/
import Derived.Test.YbulkanoyRows
import Derived.Test.YbulkanoyShelf
import Derived.Test.YbulkanoyMath
import Derived.WalkKit
import Derived.WalkSpells
namespace Go.Proofs.Ybulkanoy
open Go.RowKit
set_option linter.unusedVariables false

theorem div_cast (x s : Nat) : ((x / 2 ^ s : Nat) : Int) = (x : Int) / 2 ^ s := by simp
theorem bk_int (x : Nat) : (sh x : Int) * 128 + (x : Int) / 2 ^ sh x = (bk x : Int) := by
  unfold bk
  rw [← div_cast]
  omega
theorem ret_int {k : IntKind} {a b : Int} (h : a = b) : Ending.returned (.int k a) = .returned (.int k b) := by rw [h]

set_option maxHeartbeats 400000 in
theorem bucket_any (x : Nat) (w : World) (hx : x < 9223372036854775808) :
    Calls Yba.prog 8 #[.int .u64 (x : Int)] w fun e w' => e = .returned (.int .i64 (bk x)) ∧ w = w' := by
  have hm : max ((Lib.bitLen x : Nat) : Int) 8 = (sh x : Int) + 8 := by unfold sh; omega
  have hle : sh x ≤ 55 := sh_le x hx
  have q1 : (x : Int) / 2 ^ sh x ≤ 255 := by
    have := sh_lt x (by omega)
    rw [← div_cast]
    omega
  have q0 : 0 ≤ (x : Int) / 2 ^ sh x := by rw [← div_cast]; exact Int.natCast_nonneg _
  go_enter Yba.func8, Yba.ntmps8
  go_wp2_with (go_at_call 9; refine (Yba.bits_Len64 _ _ (by omega) (by omega)).mono ?_; rintro e w' ⟨rfl, rfl⟩)
  go_ret
  exact ⟨ret_int (bk_int x), rfl⟩

set_option maxRecDepth 100000 in
set_option maxHeartbeats 400000 in
theorem zzbucket_any (x : Nat) (w : World) (hx : x < 9223372036854775808) :
    Calls Yba.prog 6 #[.int .u64 (x : Int)] w fun e w' => e = .returned (.int .i64 (bk x)) ∧ w = w' := by
  go_enter Yba.func6, Yba.ntmps6
  go_wp2
  go_loop [3] (fun i => ∃ s : Nat, s ≤ sh x ∧ i = .int .i64 s) (fun i => 64 - (intOf i).toNat)
  case atStart => exact ⟨0, Nat.zero_le _, rfl⟩
  case round =>
    obtain ⟨s, hs, rfl⟩ := hrel
    have hle : sh x ≤ 55 := sh_le x hx
    by_cases hlt : s < sh x
    · have q : 256 ≤ (x : Int) / 2 ^ s := by
        have := sh_ge x s (by omega) hlt
        rw [← div_cast]
        omega
      go_wp2
      go_round
      case rel => exact ⟨s + 1, by omega, by go_num⟩
      case measure => simp [intOf]; omega
    · obtain rfl : s = sh x := by omega
      have q1 : (x : Int) / 2 ^ sh x ≤ 255 := by
        have := sh_lt x (by omega)
        rw [← div_cast]
        omega
      have q0 : 0 ≤ (x : Int) / 2 ^ sh x := by rw [← div_cast]; exact Int.natCast_nonneg _
      go_wp2
      go_ret
      exact ⟨ret_int (bk_int x), rfl⟩

end Go.Proofs.Ybulkanoy
