/- The walks of the number model: zzIsDigit, zzNumComplete, zzNumStep, zzLongestViable; and of skipDigits. -/
import Derived.Test.Qxb6617975aBase
import Derived.Test.Qxb6617975aNumPlain
namespace Go.Proofs.Qxb6617975a.Num
open Go.RowKit Go.Proofs.Qxb6617975a.Col
set_option linter.unusedVariables false
set_option linter.unusedSimpArgs false

theorem digit_any (z : Int) (w : World) : Calls Try.prog 21 #[.int .u8 z] w fun e w' => e = .returned (.bool (dgt z)) ∧ w' = w := by
  have hb : dgt z = (decide (48 ≤ z) && decide (z ≤ 57)) := rfl
  rw [hb]
  clear hb
  cases h1 : decide (48 ≤ z) <;> cases h2 : decide (z ≤ 57)
  all_goals
    go_enter Try.func21, Try.ntmps21
    go_wp2
    go_ret
    exact ⟨rfl, rfl⟩

theorem comp_any (s : Int) (w : World) : Calls Try.prog 18 #[.int .i64 s] w fun e w' => e = .returned (.bool (comp s)) ∧ w' = w := by
  have hb : comp s = (s == 2 || s == 3 || s == 5 || s == 8) := rfl
  rw [hb]
  clear hb
  cases h1 : (s == 2) <;> cases h2 : (s == 3) <;> cases h3 : (s == 5) <;> cases h4 : (s == 8)
  all_goals
    go_enter Try.func18, Try.ntmps18
    go_wp2
    go_ret
    exact ⟨rfl, rfl⟩

theorem step_0 (c : Int) (w : World) : Calls Try.prog 17 #[.int .i64 0, .int .u8 c] w fun e w' => e = .returned (.int .i64 (step 0 c)) ∧ w' = w := by
  by_cases h101 : c = 101
  · subst h101
    have e1 : dgt 101 = false := by decide
    rw [show step 0 101 = -1 from by decide]
    go_enter Try.func17, Try.ntmps17
    go_wp2_with (go_at_call 21; refine (digit_any _ _).mono ?_; rintro e w' ⟨rfl, rfl⟩)
    go_ret
    exact ⟨rfl, rfl⟩
  by_cases h69 : c = 69
  · subst h69
    have e1 : dgt 69 = false := by decide
    rw [show step 0 69 = -1 from by decide]
    go_enter Try.func17, Try.ntmps17
    go_wp2_with (go_at_call 21; refine (digit_any _ _).mono ?_; rintro e w' ⟨rfl, rfl⟩)
    go_ret
    exact ⟨rfl, rfl⟩
  have b1 : (c == 101) = false := beq_eq_false_iff_ne.2 h101
  have b2 : (c == 69) = false := beq_eq_false_iff_ne.2 h69
  clear h101 h69
  cases hd : dgt c <;> cases h45 : (c == 45) <;> cases h48 : (c == 48)
  all_goals
    go_enter Try.func17, Try.ntmps17
    go_wp2_with (go_at_call 21; refine (digit_any _ _).mono ?_; rintro e w' ⟨rfl, rfl⟩)
    go_ret
    exact ⟨by simp [step, ee, sgn, hd, b1, b2, h45, h48], rfl⟩

theorem step_1 (c : Int) (w : World) : Calls Try.prog 17 #[.int .i64 1, .int .u8 c] w fun e w' => e = .returned (.int .i64 (step 1 c)) ∧ w' = w := by
  by_cases h101 : c = 101
  · subst h101
    have e1 : dgt 101 = false := by decide
    rw [show step 1 101 = -1 from by decide]
    go_enter Try.func17, Try.ntmps17
    go_wp2_with (go_at_call 21; refine (digit_any _ _).mono ?_; rintro e w' ⟨rfl, rfl⟩)
    go_ret
    exact ⟨rfl, rfl⟩
  by_cases h69 : c = 69
  · subst h69
    have e1 : dgt 69 = false := by decide
    rw [show step 1 69 = -1 from by decide]
    go_enter Try.func17, Try.ntmps17
    go_wp2_with (go_at_call 21; refine (digit_any _ _).mono ?_; rintro e w' ⟨rfl, rfl⟩)
    go_ret
    exact ⟨rfl, rfl⟩
  have b1 : (c == 101) = false := beq_eq_false_iff_ne.2 h101
  have b2 : (c == 69) = false := beq_eq_false_iff_ne.2 h69
  clear h101 h69
  cases hd : dgt c <;> cases h48 : (c == 48)
  all_goals
    go_enter Try.func17, Try.ntmps17
    go_wp2_with (go_at_call 21; refine (digit_any _ _).mono ?_; rintro e w' ⟨rfl, rfl⟩)
    go_ret
    exact ⟨by simp [step, ee, sgn, hd, b1, b2, h48], rfl⟩

theorem step_2 (c : Int) (w : World) : Calls Try.prog 17 #[.int .i64 2, .int .u8 c] w fun e w' => e = .returned (.int .i64 (step 2 c)) ∧ w' = w := by
  by_cases h101 : c = 101
  · subst h101
    have e1 : dgt 101 = false := by decide
    rw [show step 2 101 = 6 from by decide]
    go_enter Try.func17, Try.ntmps17
    go_wp2_with (go_at_call 21; refine (digit_any _ _).mono ?_; rintro e w' ⟨rfl, rfl⟩)
    go_ret
    exact ⟨rfl, rfl⟩
  by_cases h69 : c = 69
  · subst h69
    have e1 : dgt 69 = false := by decide
    rw [show step 2 69 = 6 from by decide]
    go_enter Try.func17, Try.ntmps17
    go_wp2_with (go_at_call 21; refine (digit_any _ _).mono ?_; rintro e w' ⟨rfl, rfl⟩)
    go_ret
    exact ⟨rfl, rfl⟩
  have b1 : (c == 101) = false := beq_eq_false_iff_ne.2 h101
  have b2 : (c == 69) = false := beq_eq_false_iff_ne.2 h69
  clear h101 h69
  cases hd : dgt c <;> cases h46 : (c == 46)
  all_goals
    go_enter Try.func17, Try.ntmps17
    go_wp2_with (go_at_call 21; refine (digit_any _ _).mono ?_; rintro e w' ⟨rfl, rfl⟩)
    go_ret
    exact ⟨by simp [step, ee, sgn, hd, b1, b2, h46], rfl⟩

theorem step_3 (c : Int) (w : World) : Calls Try.prog 17 #[.int .i64 3, .int .u8 c] w fun e w' => e = .returned (.int .i64 (step 3 c)) ∧ w' = w := by
  by_cases h101 : c = 101
  · subst h101
    have e1 : dgt 101 = false := by decide
    rw [show step 3 101 = 6 from by decide]
    go_enter Try.func17, Try.ntmps17
    go_wp2_with (go_at_call 21; refine (digit_any _ _).mono ?_; rintro e w' ⟨rfl, rfl⟩)
    go_ret
    exact ⟨rfl, rfl⟩
  by_cases h69 : c = 69
  · subst h69
    have e1 : dgt 69 = false := by decide
    rw [show step 3 69 = 6 from by decide]
    go_enter Try.func17, Try.ntmps17
    go_wp2_with (go_at_call 21; refine (digit_any _ _).mono ?_; rintro e w' ⟨rfl, rfl⟩)
    go_ret
    exact ⟨rfl, rfl⟩
  have b1 : (c == 101) = false := beq_eq_false_iff_ne.2 h101
  have b2 : (c == 69) = false := beq_eq_false_iff_ne.2 h69
  clear h101 h69
  cases hd : dgt c <;> cases h46 : (c == 46)
  all_goals
    go_enter Try.func17, Try.ntmps17
    go_wp2_with (go_at_call 21; refine (digit_any _ _).mono ?_; rintro e w' ⟨rfl, rfl⟩)
    go_ret
    exact ⟨by simp [step, ee, sgn, hd, b1, b2, h46], rfl⟩

theorem step_4 (c : Int) (w : World) : Calls Try.prog 17 #[.int .i64 4, .int .u8 c] w fun e w' => e = .returned (.int .i64 (step 4 c)) ∧ w' = w := by
  by_cases h101 : c = 101
  · subst h101
    have e1 : dgt 101 = false := by decide
    rw [show step 4 101 = -1 from by decide]
    go_enter Try.func17, Try.ntmps17
    go_wp2_with (go_at_call 21; refine (digit_any _ _).mono ?_; rintro e w' ⟨rfl, rfl⟩)
    go_ret
    exact ⟨rfl, rfl⟩
  by_cases h69 : c = 69
  · subst h69
    have e1 : dgt 69 = false := by decide
    rw [show step 4 69 = -1 from by decide]
    go_enter Try.func17, Try.ntmps17
    go_wp2_with (go_at_call 21; refine (digit_any _ _).mono ?_; rintro e w' ⟨rfl, rfl⟩)
    go_ret
    exact ⟨rfl, rfl⟩
  have b1 : (c == 101) = false := beq_eq_false_iff_ne.2 h101
  have b2 : (c == 69) = false := beq_eq_false_iff_ne.2 h69
  clear h101 h69
  cases hd : dgt c
  all_goals
    go_enter Try.func17, Try.ntmps17
    go_wp2_with (go_at_call 21; refine (digit_any _ _).mono ?_; rintro e w' ⟨rfl, rfl⟩)
    go_ret
    exact ⟨by simp [step, ee, sgn, hd, b1, b2], rfl⟩

theorem step_5 (c : Int) (w : World) : Calls Try.prog 17 #[.int .i64 5, .int .u8 c] w fun e w' => e = .returned (.int .i64 (step 5 c)) ∧ w' = w := by
  by_cases h101 : c = 101
  · subst h101
    have e1 : dgt 101 = false := by decide
    rw [show step 5 101 = 6 from by decide]
    go_enter Try.func17, Try.ntmps17
    go_wp2_with (go_at_call 21; refine (digit_any _ _).mono ?_; rintro e w' ⟨rfl, rfl⟩)
    go_ret
    exact ⟨rfl, rfl⟩
  by_cases h69 : c = 69
  · subst h69
    have e1 : dgt 69 = false := by decide
    rw [show step 5 69 = 6 from by decide]
    go_enter Try.func17, Try.ntmps17
    go_wp2_with (go_at_call 21; refine (digit_any _ _).mono ?_; rintro e w' ⟨rfl, rfl⟩)
    go_ret
    exact ⟨rfl, rfl⟩
  have b1 : (c == 101) = false := beq_eq_false_iff_ne.2 h101
  have b2 : (c == 69) = false := beq_eq_false_iff_ne.2 h69
  clear h101 h69
  cases hd : dgt c
  all_goals
    go_enter Try.func17, Try.ntmps17
    go_wp2_with (go_at_call 21; refine (digit_any _ _).mono ?_; rintro e w' ⟨rfl, rfl⟩)
    go_ret
    exact ⟨by simp [step, ee, sgn, hd, b1, b2], rfl⟩

theorem step_6 (c : Int) (w : World) : Calls Try.prog 17 #[.int .i64 6, .int .u8 c] w fun e w' => e = .returned (.int .i64 (step 6 c)) ∧ w' = w := by
  by_cases h101 : c = 101
  · subst h101
    have e1 : dgt 101 = false := by decide
    rw [show step 6 101 = -1 from by decide]
    go_enter Try.func17, Try.ntmps17
    go_wp2_with (go_at_call 21; refine (digit_any _ _).mono ?_; rintro e w' ⟨rfl, rfl⟩)
    go_ret
    exact ⟨rfl, rfl⟩
  by_cases h69 : c = 69
  · subst h69
    have e1 : dgt 69 = false := by decide
    rw [show step 6 69 = -1 from by decide]
    go_enter Try.func17, Try.ntmps17
    go_wp2_with (go_at_call 21; refine (digit_any _ _).mono ?_; rintro e w' ⟨rfl, rfl⟩)
    go_ret
    exact ⟨rfl, rfl⟩
  have b1 : (c == 101) = false := beq_eq_false_iff_ne.2 h101
  have b2 : (c == 69) = false := beq_eq_false_iff_ne.2 h69
  clear h101 h69
  cases hd : dgt c <;> cases h43 : (c == 43) <;> cases h45 : (c == 45)
  all_goals
    go_enter Try.func17, Try.ntmps17
    go_wp2_with (go_at_call 21; refine (digit_any _ _).mono ?_; rintro e w' ⟨rfl, rfl⟩)
    go_ret
    exact ⟨by simp [step, ee, sgn, hd, b1, b2, h43, h45], rfl⟩

theorem step_7 (c : Int) (w : World) : Calls Try.prog 17 #[.int .i64 7, .int .u8 c] w fun e w' => e = .returned (.int .i64 (step 7 c)) ∧ w' = w := by
  by_cases h101 : c = 101
  · subst h101
    have e1 : dgt 101 = false := by decide
    rw [show step 7 101 = -1 from by decide]
    go_enter Try.func17, Try.ntmps17
    go_wp2_with (go_at_call 21; refine (digit_any _ _).mono ?_; rintro e w' ⟨rfl, rfl⟩)
    go_ret
    exact ⟨rfl, rfl⟩
  by_cases h69 : c = 69
  · subst h69
    have e1 : dgt 69 = false := by decide
    rw [show step 7 69 = -1 from by decide]
    go_enter Try.func17, Try.ntmps17
    go_wp2_with (go_at_call 21; refine (digit_any _ _).mono ?_; rintro e w' ⟨rfl, rfl⟩)
    go_ret
    exact ⟨rfl, rfl⟩
  have b1 : (c == 101) = false := beq_eq_false_iff_ne.2 h101
  have b2 : (c == 69) = false := beq_eq_false_iff_ne.2 h69
  clear h101 h69
  cases hd : dgt c
  all_goals
    go_enter Try.func17, Try.ntmps17
    go_wp2_with (go_at_call 21; refine (digit_any _ _).mono ?_; rintro e w' ⟨rfl, rfl⟩)
    go_ret
    exact ⟨by simp [step, ee, sgn, hd, b1, b2], rfl⟩

theorem step_8 (c : Int) (w : World) : Calls Try.prog 17 #[.int .i64 8, .int .u8 c] w fun e w' => e = .returned (.int .i64 (step 8 c)) ∧ w' = w := by
  by_cases h101 : c = 101
  · subst h101
    have e1 : dgt 101 = false := by decide
    rw [show step 8 101 = -1 from by decide]
    go_enter Try.func17, Try.ntmps17
    go_wp2_with (go_at_call 21; refine (digit_any _ _).mono ?_; rintro e w' ⟨rfl, rfl⟩)
    go_ret
    exact ⟨rfl, rfl⟩
  by_cases h69 : c = 69
  · subst h69
    have e1 : dgt 69 = false := by decide
    rw [show step 8 69 = -1 from by decide]
    go_enter Try.func17, Try.ntmps17
    go_wp2_with (go_at_call 21; refine (digit_any _ _).mono ?_; rintro e w' ⟨rfl, rfl⟩)
    go_ret
    exact ⟨rfl, rfl⟩
  have b1 : (c == 101) = false := beq_eq_false_iff_ne.2 h101
  have b2 : (c == 69) = false := beq_eq_false_iff_ne.2 h69
  clear h101 h69
  cases hd : dgt c
  all_goals
    go_enter Try.func17, Try.ntmps17
    go_wp2_with (go_at_call 21; refine (digit_any _ _).mono ?_; rintro e w' ⟨rfl, rfl⟩)
    go_ret
    exact ⟨by simp [step, ee, sgn, hd, b1, b2], rfl⟩

theorem step_any (s c : Int) (w : World) (h0 : 0 ≤ s) (h8 : s ≤ 8) : Calls Try.prog 17 #[.int .i64 s, .int .u8 c] w fun e w' => e = .returned (.int .i64 (step s c)) ∧ w' = w := by
  obtain h | h | h | h | h | h | h | h | h : s = 0 ∨ s = 1 ∨ s = 2 ∨ s = 3 ∨ s = 4 ∨ s = 5 ∨ s = 6 ∨ s = 7 ∨ s = 8 := by omega
  · subst h; exact step_0 c w
  · subst h; exact step_1 c w
  · subst h; exact step_2 c w
  · subst h; exact step_3 c w
  · subst h; exact step_4 c w
  · subst h; exact step_5 c w
  · subst h; exact step_6 c w
  · subst h; exact step_7 c w
  · subst h; exact step_8 c w

theorem step_le (s c : Int) : step s c ≤ 8 := by
  unfold step
  repeat' (first | split | omega)

end Go.Proofs.Qxb6617975a.Num
