/-
  THE PLAIN HALF of the histogram's bucket: no Go program in sight.
-/
import Derived.Lib.BitFns
namespace Go.Proofs.Ybulkanoy

/-- The shift of a number: what is left of its bits beyond the lowest eight. -/
def sh (x : Nat) : Nat := max (Lib.bitLen x) 8 - 8
/-- Its bucket. -/
def bk (x : Nat) : Nat := sh x * 128 + x / 2 ^ sh x

theorem lt_pow_bitLen : ∀ (x : Nat), x < 2 ^ 64 → x < 2 ^ Lib.bitLen x := by
  intro x
  induction x using Nat.strongRecOn with
  | _ x ih =>
    intro h
    by_cases h0 : x = 0
    · subst h0
      exact Nat.two_pow_pos _
    · have := ih (x / 2) (by omega) (by omega)
      rw [Lib.bitLen_half x h0 h, Nat.add_comm, Nat.pow_succ]
      omega

theorem pow_le_bitLen : ∀ (x : Nat), x < 2 ^ 64 → x ≠ 0 → 2 ^ (Lib.bitLen x - 1) ≤ x := by
  intro x
  induction x using Nat.strongRecOn with
  | _ x ih =>
    intro h h0
    rw [Lib.bitLen_half x h0 h]
    by_cases h1 : x / 2 = 0
    · rw [h1]
      have : Lib.bitLen 0 = 0 := by decide
      rw [this]
      simp
      omega
    · have h2 := ih (x / 2) (by omega) (by omega) h1
      have h3 : Lib.bitLen (x / 2) = 1 + Lib.bitLen (x / 2 / 2) := Lib.bitLen_half _ h1 (by omega)
      rw [h3] at h2 ⊢
      rw [show 1 + (1 + Lib.bitLen (x / 2 / 2)) - 1 = (1 + Lib.bitLen (x / 2 / 2) - 1) + 1 by omega, Nat.pow_succ]
      omega

theorem sh_lt (x : Nat) (h : x < 2 ^ 64) : x / 2 ^ sh x < 256 := by
  have h1 := lt_pow_bitLen x h
  have hp : 0 < 2 ^ sh x := Nat.two_pow_pos _
  refine Nat.div_lt_of_lt_mul (Nat.lt_of_lt_of_le h1 ?_)
  rw [show (256 : Nat) = 2 ^ 8 by decide, ← Nat.pow_add]
  exact Nat.pow_le_pow_right (by omega) (by unfold sh; omega)

theorem sh_ge (x t : Nat) (h : x < 2 ^ 64) (ht : t < sh x) : 256 ≤ x / 2 ^ t := by
  have h8 : 8 < Lib.bitLen x := by unfold sh at ht; omega
  have h0 : x ≠ 0 := by
    intro e
    subst e
    have : Lib.bitLen 0 = 0 := by decide
    omega
  have h1 := pow_le_bitLen x h h0
  have hp : 0 < 2 ^ t := Nat.two_pow_pos _
  rw [Nat.le_div_iff_mul_le hp, show (256 : Nat) = 2 ^ 8 by decide, ← Nat.pow_add]
  exact Nat.le_trans (Nat.pow_le_pow_right (by omega) (by unfold sh at ht; omega)) h1

theorem bitLen_le63 (x : Nat) (h : x < 2 ^ 63) : Lib.bitLen x ≤ 63 := by
  by_cases h0 : x = 0
  · subst h0
    have : Lib.bitLen 0 = 0 := by decide
    omega
  · have h1 := pow_le_bitLen x (by omega) h0
    rcases Nat.lt_or_ge 63 (Lib.bitLen x) with h2 | h2
    · have h3 : 2 ^ 63 ≤ 2 ^ (Lib.bitLen x - 1) := Nat.pow_le_pow_right (by omega) (by omega)
      omega
    · exact h2

theorem sh_le (x : Nat) (h : x < 2 ^ 63) : sh x ≤ 55 := by
  have := bitLen_le63 x h
  unfold sh
  omega

theorem bk_lt (x : Nat) (h : x < 2 ^ 63) : bk x < 7296 := by
  have h1 := sh_le x h
  have h2 := sh_lt x (by omega)
  unfold bk
  omega

end Go.Proofs.Ybulkanoy
