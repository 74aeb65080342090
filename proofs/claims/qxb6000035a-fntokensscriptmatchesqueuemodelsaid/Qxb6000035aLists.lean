/-
  THE SMALL FUNCTIONS OVER []string: zzSteps (22), zzIndex (24), zzSameList (26).
-/
import Derived.Test.Qxb6000035aCopies
import Derived.Deep.QuietTactic
import Derived.BigQuiet
set_option linter.unusedSimpArgs false
set_option linter.unusedVariables false
namespace Go.Proofs.Qxb6000035a
open Go.RowKit

theorem steps_any (a1 : Option Addr) (n1 c1 : Nat) (a2 : Option Addr) (n2 c2 : Nat) (w : World) :
    Calls Try.prog 22 #[.slice a1 n1 c1, .slice a2 n2 c2] w fun e w' => e = .returned (.int .i64 (min n1 n2 : Nat)) ∧ w' = w := by
  by_cases h : (n1 : Int) < (n2 : Int)
  · have e : min n1 n2 = n1 := by omega
    rw [e]
    go_enter Try.func22, Try.ntmps22
    go_wp2
    go_ret
    exact ⟨rfl, rfl⟩
  · have e : min n1 n2 = n2 := by omega
    rw [e]
    go_enter Try.func22, Try.ntmps22
    go_wp2
    go_ret
    exact ⟨rfl, rfl⟩

/-- i is where x stands in xs; -1 where it does not. -/
def IdxOf (xs : List ByteArray) (x : ByteArray) (i : Int) : Prop := (i = -1 ∧ x ∉ xs) ∨ ∃ k : Nat, i = k ∧ ∃ h : k < xs.length, xs[k] = x
def Idx (w : World) (xs : List ByteArray) (x : ByteArray) (e : Ending) (w' : World) : Prop := ∃ i, e = .returned (.int .i64 i) ∧ w' = w ∧ IdxOf xs x i

theorem Idx.hit {w : World} {xs : List ByteArray} {x : ByteArray} {k : Nat} (hk : k < xs.length) (h : xs[k] = x) : Idx w xs x (.returned (.int .i64 (k : Int))) w := ⟨k, rfl, rfl, Or.inr ⟨k, rfl, hk, h⟩⟩
theorem Idx.miss {w : World} {xs : List ByteArray} {x : ByteArray} (h : x ∉ xs) : Idx w xs x (.returned (.int .i64 (-1))) w := ⟨-1, rfl, rfl, Or.inl ⟨rfl, h⟩⟩

theorem getD_at {xs : List ByteArray} {k : Nat} (h : k < xs.length) : xs.getD k ⟨#[]⟩ = xs[k] := by simp [List.getD, h]

theorem index_any (a : Option Addr) (n c : Nat) (xs : List ByteArray) (x : ByteArray) (w : World) (hr : RowV w a n (strAt xs)) (hl : xs.length = n) (hn : n ≤ 1000000) :
    Calls Try.prog 24 #[.slice a n c, .string x] w (Idx w xs x) := by
  go_enter Try.func24, Try.ntmps24
  go_wp2
  go_loop [5] (fun i => ∃ k : Nat, k ≤ n ∧ i = .int .i64 k ∧ Hid (∀ j (h : j < xs.length), j < k → xs[j] ≠ x)) (fun i => n - (intOf i).toNat)
  case atStart => exact ⟨0, Nat.zero_le _, rfl, fun j _ hj => by omega⟩
  case round =>
    obtain ⟨k, hk, rfl, hno⟩ := hrel
    have HL := hide hl
    clear hl
    by_cases hlt : k < n
    · obtain ⟨b, off, rfl, hc⟩ := hr (by omega)
      have hkl : k < xs.length := by rw [HL.out]; exact hlt
      have hck := hc k hlt
      unfold strAt at hck
      rw [getD_at hkl] at hck
      generalize hy : xs[k] = y at hck
      have HY := hide hy
      clear hc hr hy
      by_cases hyx : y = x
      · have ht : (y.toList == x.toList) = true := by rw [str_eq]; simp [hyx]
        have hfin := hide (Idx.hit (w := w) hkl (HY.out.trans hyx))
        clear hyx
        go_wp2
        go_ret
        exact hfin.out
      · have ht : (y.toList == x.toList) = false := by rw [str_eq]; simp [hyx]
        have hno' : Hid (∀ j (h : j < xs.length), j < k + 1 → xs[j] ≠ x) := by
          intro j hj hjk
          by_cases e : j = k
          · subst e; rw [HY.out]; exact hyx
          · exact hno j hj (by omega)
        clear hyx
        go_wp2
        go_round
        case rel => exact ⟨k + 1, by omega, by go_num, hno'⟩
        case measure => simp [intOf]; omega
    · have hmiss : x ∉ xs := by
        intro hx
        obtain ⟨j, hj, e⟩ := List.getElem_of_mem hx
        exact hno j hj (by rw [HL.out] at hj; omega) e
      have hfin := hide (Idx.miss (w := w) hmiss)
      clear hr hmiss
      go_wp2
      go_ret
      exact hfin.out

/-- zzSameList of two slices that hold the same names. -/
theorem sameList_any (a : Option Addr) (n c : Nat) (a2 : Option Addr) (c2 : Nat) (xs : List ByteArray) (w : World) (hr : RowV w a n (strAt xs)) (hr2 : RowV w a2 n (strAt xs)) (hn : n ≤ 1000000) :
    Calls Try.prog 26 #[.slice a n c, .slice a2 n c2] w fun e w' => e = .returned (.bool true) ∧ Same w w' := by
  go_enter Try.func26, Try.ntmps26
  go_wp2
  go_loopw [5] (fun i wr => ∃ k : Nat, k ≤ n ∧ i = .int .i64 k ∧ Same w wr) (fun i _ => n - (intOf i).toNat)
  case atStart => exact ⟨0, Nat.zero_le _, rfl, Same.refl _⟩
  case round =>
    obtain ⟨k, hk, rfl, hsm⟩ := hrel
    by_cases hlt : k < n
    · obtain ⟨b, off, rfl, hc⟩ := hr (by omega)
      obtain ⟨b2, off2, rfl, hc2⟩ := hr2 (by omega)
      have hck := (hsm.cell _).trans (hc k hlt)
      have hck2 := (hsm.cell _).trans (hc2 k hlt)
      unfold strAt at hck hck2
      generalize xs.getD k ⟨#[]⟩ = y at hck hck2
      have hltI : (k : Int) < (n : Int) := by omega
      have HS := hide hsm
      clear hc hr hc2 hr2 hsm
      go_wp2
      go_region
      all_goals (try go_wp2)
      all_goals
        go_roundw
        case rel => exact ⟨k + 1, by omega, by go_num, HS.out.drew⟩
        case measure => simp [intOf]; omega
    · have HS := hide hsm
      clear hr hr2 hsm
      go_wp2
      go_ret
      exact ⟨rfl, HS.out⟩

end Go.Proofs.Qxb6000035a
