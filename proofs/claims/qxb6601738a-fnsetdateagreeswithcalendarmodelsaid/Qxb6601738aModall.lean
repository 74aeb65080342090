/-
  zzB1ModelSetDate (13): all cases.
-/
import Derived.Test.Qxb6601738aModm
import Derived.Test.Qxb6601738aMods
set_option linter.unusedSimpArgs false
set_option linter.unusedVariables false
namespace Go.Proofs.Qxb6601738a
open Go.RowKit

theorem modNil_any (w : World) (f : P8) (yr mo d now : Int) (hy : I32 yr) (hm : I32 mo) (hd : I32 d) :
    Calls Try.prog 13 #[.agg f.arr, .int .i32 yr, .int .i32 mo, .int .i32 d, .pointer none, .int .i64 now] w (Both w (setNil f yr mo d)) := by
  unfold setNil
  by_cases hbad : mo < 1 ∨ 12 < mo ∨ d < 1 ∨ 31 < d
  · rw [if_pos hbad]; exact mod_bad w f yr mo d now none hm hd hbad
  rw [if_neg hbad]
  by_cases h1 : yr = -1
  · rw [if_pos h1]; subst h1; exact mod_nil_one w f mo d now (by omega) (by omega) (by omega) (by omega)
  rw [if_neg h1]
  cases ht : yearOf yr with
  | some t => exact mod_nil_some w f yr t mo d now (by omega) (by omega) (by omega) (by omega) hy h1 ht
  | none => exact mod_nil_none w f yr mo d now (by omega) (by omega) (by omega) (by omega) hy h1 ht

theorem yearOf_bd {yr t : Int} (hy : I32 yr) (ht : yearOf yr = some t) : I32 t := by
  unfold yearOf at ht
  obtain ⟨_, _⟩ := hy
  split at ht
  · simp at ht; constructor <;> omega
  · split at ht
    · simp at ht; constructor <;> omega
    · split at ht
      · simp at ht; constructor <;> omega
      · cases ht

theorem modRef_any (w : World) (f : P8) (okf : f.ok) (yr mo d ry now : Int) (hy : I32 yr) (hm : I32 mo) (hd : I32 d) (hgy : I32 ry) (hn0 : -9223372036854775808 ≤ now) (hn1 : now ≤ 9223372036853911807) {rb : Nat} (hr : w.cell? ⟨rb, 0, none⟩ = some (.int .i32 ry)) :
    Calls Try.prog 13 #[.agg f.arr, .int .i32 yr, .int .i32 mo, .int .i32 d, .pointer (some ⟨rb, 0, none⟩), .int .i64 now] w (Both w (setRef f yr mo d ry now)) := by
  unfold setRef
  by_cases hbad : mo < 1 ∨ 12 < mo ∨ d < 1 ∨ 31 < d
  · rw [if_pos hbad]; exact mod_bad w f yr mo d now _ hm hd hbad
  rw [if_neg hbad]
  by_cases h1 : yr = -1
  · rw [if_pos h1]; subst h1; 
    obtain ⟨T, rfl⟩ : ∃ T, ry = T - 1900 := ⟨ry + 1900, by omega⟩
    exact mod_ref_m_T w f okf T mo d now rb hr (by omega) (by omega) (by omega) (by omega) hn0 hn1 hgy
  rw [if_neg h1]
  cases ht : yearOf yr with
  | some t =>
    obtain ⟨T, rfl⟩ : ∃ T, t = T - 1900 := ⟨t + 1900, by omega⟩
    exact mod_ref_some_T w f okf yr T ry mo d now rb hr (by omega) (by omega) (by omega) (by omega) hn0 hn1 (yearOf_bd hy ht) hy h1 ht
  | none => exact mod_ref_none w f yr mo d now _ (by omega) (by omega) (by omega) (by omega) hy h1 ht

end Go.Proofs.Qxb6601738a
