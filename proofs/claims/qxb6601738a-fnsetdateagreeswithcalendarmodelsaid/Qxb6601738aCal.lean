/-
  PLAIN: the two counts of days agree; the text's year (28).
-/
import Derived.Test.Qxb6601738aShim
set_option linter.unusedSimpArgs false
set_option linter.unusedVariables false
namespace Go.Proofs.Qxb6601738a
open Go.RowKit

theorem civil_secs (y m d h mi s : Int) (hy0 : 1970 ≤ y) (hy1 : y ≤ 2099) (hm0 : 1 ≤ m) (hm1 : m ≤ 12) : civil y m d * 86400 + h * 3600 + mi * 60 + s = secs (y - 1900) (m - 1) d h mi s := by
  have hm : m = 1 ∨ m = 2 ∨ m = 3 ∨ m = 4 ∨ m = 5 ∨ m = 6 ∨ m = 7 ∨ m = 8 ∨ m = 9 ∨ m = 10 ∨ m = 11 ∨ m = 12 := by omega
  rcases hm with rfl | rfl | rfl | rfl | rfl | rfl | rfl | rfl | rfl | rfl | rfl | rfl
  all_goals
    simp [civil, secs, cum]
    try split
    all_goals omega

set_option maxHeartbeats 1000000 in
theorem year_some (w : World) (yr t : Int) (hy : I32 yr) (h1 : yr ≠ -1) (ht : yearOf yr = some t) :
    Calls Try.prog 28 #[.int .i32 yr] w fun e w' => e = .returned (.tuple #[.int .i32 t, .bool true]) ∧ w' = w := by
  have y0 := hy.lo
  have y1 := hy.hi
  unfold yearOf at ht
  by_cases ha : 1970 ≤ yr ∧ yr < 2100
  · rw [if_pos ha] at ht
    obtain rfl : yr - 1900 = t := by simpa using ht
    obtain ⟨h2, h3⟩ := ha
    have g1 : decide (1970 ≤ yr) = true := by simp; omega
    have g2 : decide (yr ≤ 2099) = true := by simp; omega
    clear ht
    go_enter Try.func28, Try.ntmps28
    go_wp2
    go_ret2
    exact ⟨rfl, rfl⟩
  rw [if_neg ha] at ht
  by_cases hb : 70 < yr ∧ yr < 100
  · rw [if_pos hb] at ht
    obtain rfl : yr = t := by simpa using ht
    obtain ⟨h2, h3⟩ := hb
    have g1 : decide (1970 ≤ yr) = false := by simp; omega
    have g3 : decide (71 ≤ yr) = true := by simp; omega
    have g4 : decide (yr ≤ 99) = true := by simp; omega
    clear ht ha
    go_enter Try.func28, Try.ntmps28
    go_wp2
    go_ret2
    exact ⟨rfl, rfl⟩
  rw [if_neg hb] at ht
  by_cases hc : yr < 38
  · rw [if_pos hc] at ht
    obtain rfl : yr + 100 = t := by simpa using ht
    have g1 : decide (1970 ≤ yr) = false := by simp; omega
    have g3 : decide (71 ≤ yr) = false := by simp; omega
    have g5 : decide (yr ≤ 37) = true := by simp; omega
    have g6 : (yr == -1) = false := by simp; omega
    clear ht ha hb
    go_enter Try.func28, Try.ntmps28
    go_wp2
    go_ret2
    exact ⟨rfl, rfl⟩
  · rw [if_neg hc] at ht
    cases ht

set_option maxHeartbeats 1000000 in
theorem year_none (w : World) (yr : Int) (hy : I32 yr) (ht : yr = -1 ∨ yearOf yr = none) :
    Calls Try.prog 28 #[.int .i32 yr] w fun e w' => e = .returned (.tuple #[.int .i32 0, .bool false]) ∧ w' = w := by
  have y0 := hy.lo
  have y1 := hy.hi
  by_cases h1 : yr = -1
  · subst h1
    go_enter Try.func28, Try.ntmps28
    go_wp2
    go_ret2
    exact ⟨rfl, rfl⟩
  have hn : yearOf yr = none := by rcases ht with e | e; exact absurd e h1; exact e
  have hr : (38 ≤ yr ∧ yr ≤ 70) ∨ (100 ≤ yr ∧ yr < 1970) ∨ 2100 ≤ yr := by
    unfold yearOf at hn
    split at hn
    · cases hn
    · split at hn
      · cases hn
      · split at hn
        · cases hn
        · omega
  clear ht hn
  rcases hr with ⟨h2, h3⟩ | ⟨h2, h3⟩ | h2
  · have g1 : decide (1970 ≤ yr) = false := by simp; omega
    have g3 : decide (71 ≤ yr) = false := by simp; omega
    have g5 : decide (yr ≤ 37) = false := by simp; omega
    go_enter Try.func28, Try.ntmps28
    go_wp2
    go_ret2
    exact ⟨rfl, rfl⟩
  · have g1 : decide (1970 ≤ yr) = false := by simp; omega
    have g3 : decide (71 ≤ yr) = true := by simp; omega
    have g4 : decide (yr ≤ 99) = false := by simp; omega
    have g5 : decide (yr ≤ 37) = false := by simp; omega
    go_enter Try.func28, Try.ntmps28
    go_wp2
    go_ret2
    exact ⟨rfl, rfl⟩
  · have g1 : decide (1970 ≤ yr) = true := by simp; omega
    have g2 : decide (yr ≤ 2099) = false := by simp; omega
    have g3 : decide (71 ≤ yr) = true := by simp; omega
    have g4 : decide (yr ≤ 99) = false := by simp; omega
    have g5 : decide (yr ≤ 37) = false := by simp; omega
    go_enter Try.func28, Try.ntmps28
    go_wp2
    go_ret2
    exact ⟨rfl, rfl⟩

end Go.Proofs.Qxb6601738a
