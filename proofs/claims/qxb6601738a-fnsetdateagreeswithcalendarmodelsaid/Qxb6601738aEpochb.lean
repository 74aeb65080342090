/-
  (*dateFields).epochSeconds (32), year and month in reach.
-/
import Derived.Test.Qxb6601738aEpoch
set_option linter.unusedSimpArgs false
set_option linter.unusedVariables false
namespace Go.Proofs.Qxb6601738a
open Go.RowKit

def cumL : List Value := [.int .i64 0, .int .i64 31, .int .i64 59, .int .i64 90, .int .i64 120, .int .i64 151, .int .i64 181, .int .i64 212, .int .i64 243, .int .i64 273, .int .i64 304, .int .i64 334]
theorem cum_at (m : Nat) (h : m < 12) : ∀ hp, cumL[m]'hp = .int .i64 (cum m) := by
  intro hp
  have : m = 0 ∨ m = 1 ∨ m = 2 ∨ m = 3 ∨ m = 4 ∨ m = 5 ∨ m = 6 ∨ m = 7 ∨ m = 8 ∨ m = 9 ∨ m = 10 ∨ m = 11 := by omega
  rcases this with rfl | rfl | rfl | rfl | rfl | rfl | rfl | rfl | rfl | rfl | rfl | rfl <;> rfl
theorem cum_bd (m : Int) : 0 ≤ cum m ∧ cum m ≤ 334 := by
  unfold cum
  repeat' split
  all_goals omega

set_option maxHeartbeats 2000000 in
theorem epoch_yes {w : World} {b m : Nat} {y d h mi s wd ds : Int} (hb : Blk w b (parts y m d h mi s wd ds) 45) (hy0 : 0 ≤ y - 70) (hy1 : y - 70 ≤ 129) (hm1 : m < 12) (hd0 : 1 ≤ d) (hd1 : d ≤ 31) (hh0 : 0 ≤ h) (hh1 : h ≤ 2147483647) (hi0 : 0 ≤ mi) (hi1 : mi ≤ 2147483647) (hs0 : 0 ≤ s) (hs1 : s ≤ 2147483647) :
    Calls Try.prog 32 #[.pointer (some ⟨b, 0, none⟩)] w (Epoch w (secs y m d h mi s)) := by
  have k0 : w.cell? ⟨b, 0, none⟩ = some (.int .i32 y) := hb.cell 0
  have k1 : w.cell? ⟨b, 1, none⟩ = some (.int .i32 m) := hb.cell 1
  have k2 : w.cell? ⟨b, 2, none⟩ = some (.int .i32 d) := hb.cell 2
  have k3 : w.cell? ⟨b, 3, none⟩ = some (.int .i32 h) := hb.cell 3
  have k4 : w.cell? ⟨b, 4, none⟩ = some (.int .i32 mi) := hb.cell 4
  have k5 : w.cell? ⟨b, 5, none⟩ = some (.int .i32 s) := hb.cell 5
  have hl := hb.lt
  have hcm := cum_at m hm1
  obtain ⟨hc0, hc1⟩ := cum_bd m
  obtain ⟨V, hV⟩ : ∃ V, V = secs y m d h mi s := ⟨_, rfl⟩
  rw [← hV]
  unfold secs at hV
  generalize cum (m : Int) = C at hcm hc0 hc1 hV
  obtain ⟨Y, rfl⟩ : ∃ Y, y = Y + 70 := ⟨y - 70, by omega⟩
  have e0 : Y + 70 - 70 = Y := by omega
  rw [e0] at hy0 hy1 hV
  unfold cumL at hcm
  have hbelow : Hid (∀ o, Below w.heap.size w (w.alloc o)) := fun o => (Below.refl _ _).alloc (Nat.le_refl _) o
  have f0 : decide ((m : Int) < 0) = false := by simp
  have f01 : decide (11 < (m : Int)) = false := by simp; omega
  have f1 : decide (Y < 0) = false := by simp; omega
  have f2 : decide (129 < Y) = false := by simp; omega
  have f3 : decide (h < 0) = false := by simp; omega
  have f4 : decide (mi < 0) = false := by simp; omega
  have f5 : decide (s < 0) = false := by simp; omega
  clear hb
  by_cases hm2 : (m : Int) < 2
  · rw [if_pos (Or.inl hm2)] at hV
    have HV := hide hV
    clear hV
    go_enter Try.func32, Try.ntmps32
    go_wp2
    go_quiet (fail)
    go_wp2
    go_ret
    refine ⟨?_, Below.same' (hbelow.out _) ((Same.refl _).drewN _)⟩
    rw [HV.out]; rfl
  · by_cases hlp : (Y + 2) % 4 = 0
    · rw [if_neg (by omega)] at hV
      have HV := hide hV
      clear hV
      go_enter Try.func32, Try.ntmps32
      go_wp2
      go_quiet (fail)
      go_wp2
      go_ret
      refine ⟨?_, Below.same' (hbelow.out _) ((Same.refl _).drewN _)⟩
      rw [HV.out]; rfl
    · rw [if_pos (Or.inr hlp)] at hV
      have HV := hide hV
      clear hV
      go_enter Try.func32, Try.ntmps32
      go_wp2
      go_quiet (fail)
      go_wp2
      go_ret
      refine ⟨?_, Below.same' (hbelow.out _) ((Same.refl _).drewN _)⟩
      rw [HV.out]; rfl

end Go.Proofs.Qxb6601738a
