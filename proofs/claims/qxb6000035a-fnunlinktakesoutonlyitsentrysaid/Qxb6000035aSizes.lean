/-
  THE GUARDS ON SIZE (18, 14, 6: zzBytes_..; 7: zzSizeOK): they read, they answer, nothing turns.
-/
import Derived.Test.Qxb6000035aBase
set_option linter.unusedSimpArgs false
set_option linter.unusedVariables false
namespace Go.Proofs.Qxb6000035a
open Go.RowKit

/-- A slice's elements: where there is one, the address is known and cell i holds f i. -/
def RowV (w : World) (a : Option Addr) (n : Nat) (f : Nat → Value) : Prop :=
  0 < n → ∃ b off, a = some ⟨b, off, none⟩ ∧ ∀ i, i < n → w.cell? ⟨b, off + i, none⟩ = some (f i)

def strAt (xs : List ByteArray) (i : Nat) : Value := .string (xs.getD i ⟨#[]⟩)

/-- It answers some bool, nothing has turned. -/
def AnyB (w : World) (e : Ending) (w' : World) : Prop := ∃ b, e = .returned (.bool b) ∧ w' = w
theorem AnyB.mk (w : World) (b : Bool) : AnyB w (.returned (.bool b)) w := ⟨b, rfl, rfl⟩

theorem bytes18_any (t : Int) (a0 : Option Addr) (n0 c0 : Nat) (a1 : Option Addr) (n1 c1 : Nat) (a2 : Option Addr) (n2 c2 : Nat) (xs : List ByteArray) (w : World)
    (hr : RowV w a0 n0 (strAt xs)) (h0 : n0 ≤ maxLen) (h1 : n1 ≤ maxLen) (h2 : n2 ≤ maxLen) :
    Calls Try.prog 18 #[.slice a0 n0 c0, .slice a1 n1 c1, .slice a2 n2 c2, .int .u16 t] w (AnyB w) := by
  unfold maxLen at h0 h1 h2
  go_enter Try.func18, Try.ntmps18
  go_wp2
  all_goals first
    | (go_ret; exact AnyB.mk _ _)
    | skip
  go_loop [9, 10] (fun z i => ∃ (x : Int) (k : Nat), k ≤ n0 ∧ z = .int .i64 x ∧ i = .int .i64 k) (fun _ i => n0 - (intOf i).toNat)
  case atStart => exact ⟨_, 0, Nat.zero_le _, rfl, rfl⟩
  case round =>
    obtain ⟨x, k, hk, rfl, rfl⟩ := hrel
    by_cases hlt : k < n0
    · obtain ⟨b, off, rfl, hc⟩ := hr (by omega)
      have hck := hc k hlt
      unfold strAt at hck
      clear hc hr
      go_wp2
      all_goals first
        | (go_ret; exact AnyB.mk _ _)
        | (go_round
           case rel => exact ⟨_, k + 1, by omega, rfl, by go_num⟩
           case measure => simp [intOf]; omega)
    · clear hr
      go_wp2
      all_goals (go_ret; exact AnyB.mk _ _)

theorem bytes14_any (t : Int) (a0 : Option Addr) (n0 c0 : Nat) (a1 : Option Addr) (n1 c1 : Nat) (a2 : Option Addr) (n2 c2 : Nat) (xs : List ByteArray) (w : World)
    (hr : RowV w a0 n0 (strAt xs)) (h0 : n0 ≤ maxLen) (h1 : n1 ≤ maxLen) (h2 : n2 ≤ maxLen) :
    Calls Try.prog 14 #[.slice a0 n0 c0, .slice a1 n1 c1, .slice a2 n2 c2, .int .u16 t] w (AnyB w) := by
  unfold maxLen at h0 h1 h2
  go_enter Try.func14, Try.ntmps14
  go_wp2
  all_goals first
    | (go_ret; exact AnyB.mk _ _)
    | skip
  go_loop [9, 10] (fun z i => ∃ (x : Int) (k : Nat), k ≤ n0 ∧ z = .int .i64 x ∧ i = .int .i64 k) (fun _ i => n0 - (intOf i).toNat)
  case atStart => exact ⟨_, 0, Nat.zero_le _, rfl, rfl⟩
  case round =>
    obtain ⟨x, k, hk, rfl, rfl⟩ := hrel
    by_cases hlt : k < n0
    · obtain ⟨b, off, rfl, hc⟩ := hr (by omega)
      have hck := hc k hlt
      unfold strAt at hck
      clear hc hr
      go_wp2
      all_goals first
        | (go_ret; exact AnyB.mk _ _)
        | (go_round
           case rel => exact ⟨_, k + 1, by omega, rfl, by go_num⟩
           case measure => simp [intOf]; omega)
    · clear hr
      go_wp2
      all_goals (go_ret; exact AnyB.mk _ _)

theorem bytes6_any (t : Int) (a0 : Option Addr) (n0 c0 : Nat) (a1 : Option Addr) (n1 c1 : Nat) (a2 : Option Addr) (n2 c2 : Nat) (xs : List ByteArray) (w : World)
    (hr : RowV w a0 n0 (strAt xs)) (h0 : n0 ≤ maxLen) (h1 : n1 ≤ maxLen) (h2 : n2 ≤ maxLen) :
    Calls Try.prog 6 #[.int .u64 t, .slice a0 n0 c0, .slice a1 n1 c1, .slice a2 n2 c2] w (AnyB w) := by
  unfold maxLen at h0 h1 h2
  go_enter Try.func6, Try.ntmps6
  go_wp2
  all_goals first
    | (go_ret; exact AnyB.mk _ _)
    | skip
  go_loop [9, 10] (fun z i => ∃ (x : Int) (k : Nat), k ≤ n0 ∧ z = .int .i64 x ∧ i = .int .i64 k) (fun _ i => n0 - (intOf i).toNat)
  case atStart => exact ⟨_, 0, Nat.zero_le _, rfl, rfl⟩
  case round =>
    obtain ⟨x, k, hk, rfl, rfl⟩ := hrel
    by_cases hlt : k < n0
    · obtain ⟨b, off, rfl, hc⟩ := hr (by omega)
      have hck := hc k hlt
      unfold strAt at hck
      clear hc hr
      go_wp2
      all_goals first
        | (go_ret; exact AnyB.mk _ _)
        | (go_round
           case rel => exact ⟨_, k + 1, by omega, rfl, by go_num⟩
           case measure => simp [intOf]; omega)
    · clear hr
      go_wp2
      all_goals (go_ret; exact AnyB.mk _ _)

/-- zzSizeOK: where it says yes, the three lengths are at most 4096. -/
def SizeOK (n0 n1 n2 : Nat) (w : World) (e : Ending) (w' : World) : Prop := ∃ b, e = .returned (.bool b) ∧ w' = w ∧ (b = true → n0 ≤ 4096 ∧ n1 ≤ 4096 ∧ n2 ≤ 4096)
theorem SizeOK.no (n0 n1 n2 : Nat) (w : World) : SizeOK n0 n1 n2 w (.returned (.bool false)) w := ⟨false, rfl, rfl, fun h => by cases h⟩
theorem SizeOK.mk {n0 n1 n2 : Nat} (w : World) (b : Bool) (h0 : n0 ≤ 4096) (h1 : n1 ≤ 4096) (h2 : n2 ≤ 4096) : SizeOK n0 n1 n2 w (.returned (.bool b)) w := ⟨b, rfl, rfl, fun _ => ⟨h0, h1, h2⟩⟩

theorem sizeOK_any (a0 : Option Addr) (n0 c0 : Nat) (a1 : Option Addr) (n1 c1 : Nat) (a2 : Option Addr) (n2 c2 : Nat) (xs : List ByteArray) (w : World)
    (hr : RowV w a0 n0 (strAt xs)) (h0 : n0 ≤ maxLen) (h1 : n1 ≤ maxLen) (h2 : n2 ≤ maxLen) :
    Calls Try.prog 7 #[.slice a0 n0 c0, .slice a1 n1 c1, .slice a2 n2 c2] w (SizeOK n0 n1 n2 w) := by
  unfold maxLen at h0 h1 h2
  by_cases g0 : (4096 : Int) < (n0 : Int)
  · go_enter Try.func7, Try.ntmps7
    go_wp2
    go_ret
    exact SizeOK.no _ _ _ _
  by_cases g1 : (4096 : Int) < (n1 : Int)
  · go_enter Try.func7, Try.ntmps7
    go_wp2
    go_ret
    exact SizeOK.no _ _ _ _
  by_cases g2 : (4096 : Int) < (n2 : Int)
  · go_enter Try.func7, Try.ntmps7
    go_wp2
    go_ret
    exact SizeOK.no _ _ _ _
  go_enter Try.func7, Try.ntmps7
  go_wp2
  go_loop [7, 8] (fun z i => ∃ (x : Int) (k : Nat), k ≤ n0 ∧ z = .int .i64 x ∧ i = .int .i64 k) (fun _ i => n0 - (intOf i).toNat)
  case atStart => exact ⟨_, 0, Nat.zero_le _, rfl, rfl⟩
  case round =>
    obtain ⟨x, k, hk, rfl, rfl⟩ := hrel
    by_cases hlt : k < n0
    · obtain ⟨b, off, rfl, hc⟩ := hr (by omega)
      have hck := hc k hlt
      unfold strAt at hck
      clear hc hr
      go_wp2
      all_goals first
        | (go_ret; exact SizeOK.no _ _ _ _)
        | (go_round
           case rel => exact ⟨_, k + 1, by omega, rfl, by go_num⟩
           case measure => simp [intOf]; omega)
    · clear hr
      go_wp2
      all_goals (go_ret; exact SizeOK.mk _ _ (by omega) (by omega) (by omega))

end Go.Proofs.Qxb6000035a
