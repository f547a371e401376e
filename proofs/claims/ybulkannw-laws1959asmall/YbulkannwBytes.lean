/-
  THE WALKS of the four small functions over bytes (isDigit, fits, and the law's own two restatements), each by its contract.
-/
import Derived.Test.YbulkannwRows
import Derived.WalkKit
namespace Go.Proofs.Ybulkannw
open Go.RowKit

/-- A decimal digit's byte. -/
def digB (c : Int) : Bool := decide (48 ≤ c ∧ c ≤ 57)
/-- A letter's byte. -/
def letB (c : Int) : Bool := decide ((65 ≤ c ∧ c ≤ 90) ∨ (97 ≤ c ∧ c ≤ 122))
/-- What 'fits' answers. -/
def fitB (c l : Int) : Bool := if digB l = true then digB c else if l = 45 then (c == 43 || c == 45) else if letB l = true then true else c == l

theorem ret_bool {a b : Bool} (h : a = b) : Ending.returned (.bool a) = .returned (.bool b) := by rw [h]

theorem isDigit_any (c : Int) (w : World) : Calls Yba.prog 9 #[.int .u8 c] w fun e w' => e = .returned (.bool (digB c)) ∧ w = w' := by
  by_cases h1 : 48 ≤ c
  · by_cases h2 : c ≤ 57
    · go_enter Yba.func9, Yba.ntmps9
      go_wp2
      go_ret
      exact ⟨ret_bool (by simp [digB]; omega), rfl⟩
    · go_enter Yba.func9, Yba.ntmps9
      go_wp2
      go_ret
      exact ⟨ret_bool (by simp [digB]; omega), rfl⟩
  · go_enter Yba.func9, Yba.ntmps9
    go_wp2
    go_ret
    exact ⟨ret_bool (by simp [digB]; omega), rfl⟩

theorem zzdigit_any (c : Int) (w : World) : Calls Yba.prog 6 #[.int .u8 c] w fun e w' => e = .returned (.bool (digB c)) ∧ w = w' := by
  by_cases h1 : 48 ≤ c
  · by_cases h2 : c ≤ 57
    · go_enter Yba.func6, Yba.ntmps6
      go_wp2
      go_ret
      exact ⟨ret_bool (by simp [digB]; omega), rfl⟩
    · go_enter Yba.func6, Yba.ntmps6
      go_wp2
      go_ret
      exact ⟨ret_bool (by simp [digB]; omega), rfl⟩
  · go_enter Yba.func6, Yba.ntmps6
    go_wp2
    go_ret
    exact ⟨ret_bool (by simp [digB]; omega), rfl⟩

theorem letter_any (c : Int) (w : World) : Calls Yba.prog 7 #[.int .u8 c] w fun e w' => e = .returned (.bool (letB c)) ∧ w = w' := by
  by_cases h1 : 65 ≤ c
  · by_cases h2 : c ≤ 90
    · go_enter Yba.func7, Yba.ntmps7
      go_wp2
      go_ret
      exact ⟨ret_bool (by simp [letB]; omega), rfl⟩
    · by_cases h3 : 97 ≤ c
      · by_cases h4 : c ≤ 122
        · go_enter Yba.func7, Yba.ntmps7
          go_wp2
          go_ret
          exact ⟨ret_bool (by simp [letB]; omega), rfl⟩
        · go_enter Yba.func7, Yba.ntmps7
          go_wp2
          go_ret
          exact ⟨ret_bool (by simp [letB]; omega), rfl⟩
      · go_enter Yba.func7, Yba.ntmps7
        go_wp2
        go_ret
        exact ⟨ret_bool (by simp [letB]; omega), rfl⟩
  · go_enter Yba.func7, Yba.ntmps7
    go_wp2
    go_ret
    exact ⟨ret_bool (by simp [letB]; omega), rfl⟩

/-- 'fits', each way by itself: l is a digit. -/
theorem fits_any (c l : Int) (w : World) : Calls Yba.prog 8 #[.int .u8 c, .int .u8 l] w fun e w' => e = .returned (.bool (fitB c l)) ∧ w = w' := by
  by_cases hd : digB l = true
  · go_enter Yba.func8, Yba.ntmps8
    go_wp2_with (go_at_call 9; refine (isDigit_any _ _).mono ?_; rintro e w' ⟨rfl, rfl⟩)
    go_ret
    exact ⟨ret_bool (by simp [fitB, hd]), rfl⟩
  · have hd' : digB l = false := by simpa using hd
    by_cases hm : l = 45
    · subst hm
      by_cases h1 : c = 43
      · subst h1
        go_enter Yba.func8, Yba.ntmps8
        go_wp2_with (go_at_call 9; refine (isDigit_any _ _).mono ?_; rintro e w' ⟨rfl, rfl⟩)
        go_ret
        exact ⟨ret_bool (by simp [fitB, hd']), rfl⟩
      · have h1' : (c == 43) = false := by simpa using h1
        go_enter Yba.func8, Yba.ntmps8
        go_wp2_with (go_at_call 9; refine (isDigit_any _ _).mono ?_; rintro e w' ⟨rfl, rfl⟩)
        go_ret
        exact ⟨ret_bool (by simp [fitB, hd', h1]), rfl⟩
    · have hm' : (l == 45) = false := by simpa using hm
      by_cases h1 : 65 ≤ l
      · by_cases h2 : l ≤ 90
        · go_enter Yba.func8, Yba.ntmps8
          go_wp2_with (go_at_call 9; refine (isDigit_any _ _).mono ?_; rintro e w' ⟨rfl, rfl⟩)
          go_ret
          exact ⟨ret_bool (by simp [fitB, hd', hm, letB]; omega), rfl⟩
        · by_cases h3 : 97 ≤ l
          · by_cases h4 : l ≤ 122
            · go_enter Yba.func8, Yba.ntmps8
              go_wp2_with (go_at_call 9; refine (isDigit_any _ _).mono ?_; rintro e w' ⟨rfl, rfl⟩)
              go_ret
              exact ⟨ret_bool (by simp [fitB, hd', hm, letB]; omega), rfl⟩
            · go_enter Yba.func8, Yba.ntmps8
              go_wp2_with (go_at_call 9; refine (isDigit_any _ _).mono ?_; rintro e w' ⟨rfl, rfl⟩)
              go_ret
              exact ⟨ret_bool (by simp [fitB, hd', hm, letB]; omega), rfl⟩
          · go_enter Yba.func8, Yba.ntmps8
            go_wp2_with (go_at_call 9; refine (isDigit_any _ _).mono ?_; rintro e w' ⟨rfl, rfl⟩)
            go_ret
            exact ⟨ret_bool (by simp [fitB, hd', hm, letB]; omega), rfl⟩
      · go_enter Yba.func8, Yba.ntmps8
        go_wp2_with (go_at_call 9; refine (isDigit_any _ _).mono ?_; rintro e w' ⟨rfl, rfl⟩)
        go_ret
        exact ⟨ret_bool (by simp [fitB, hd', hm, letB]; omega), rfl⟩

end Go.Proofs.Ybulkannw
