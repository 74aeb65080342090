/-
  zzSame (20) of two Tokens in the same state; the law's walk (5).
-/
import Derived.Test.Qxb6000035aRun
set_option linter.unusedSimpArgs false
set_option linter.unusedVariables false
namespace Go.Proofs.Qxb6000035a
open Go.RowKit

set_option maxHeartbeats 1000000 in
theorem same_any {w : World} {Sa Sb : TS} (ha : Tok w Sa) (hb : Tok w Sb) (eK : Sb.K = Sa.K) (eQ : Sb.Q = Sa.Q) (a0 : Option Addr) (n0 c0 : Nat) (rs : List ByteArray)
    (r0 : RowV w a0 n0 (strAt rs)) (l0 : rs.length = n0) (hQ : Sa.Q.length ≤ n0) (b0 : n0 ≤ 4096) (hsz : ∀ x ∈ rs, x.size ≤ maxLen) :
    Calls Try.prog 20 #[.pointer (some ⟨Sa.tb, 0, none⟩), .pointer (some ⟨Sb.tb, 0, none⟩), .slice a0 n0 c0] w fun e w' => e = .returned (.bool true) ∧ Below w.heap.size w w' := by
  have HA := hide ha
  have HBB := hide hb
  have HEK := hide eK
  have HEQ := hide eQ
  have R0 := hide r0
  have HL := hide l0
  have HSZ := hide hsz
  have HQ := hide hQ
  clear ha hb eK eQ r0 l0 hsz hQ
  go_enter Try.func20, Try.ntmps20
  go_wp2_with fail
  refine (zzFrees_any HA.out).mono ?_
  rintro e w1 ⟨rfl, rfl⟩
  go_wp2_with fail
  refine (zzFrees_any HBB.out).mono ?_
  rintro e w2 ⟨rfl, rfl⟩
  rw [HEQ.out]
  go_wp2_with fail
  refine (walk_any HA.out n0 HQ.out (by omega)).mono ?_
  rintro e w3 ⟨a3, c3, rfl, hr3, hb3⟩
  have HB3 := hide hb3
  have HR3 := hide hr3
  clear hb3 hr3
  go_wp2_with fail
  refine (walk_any (HBB.out.below HB3.out) n0 (by rw [HEQ.out]; exact HQ.out) (by omega)).mono ?_
  rintro e w4 ⟨a4, c4, rfl, hr4, hb4⟩
  rw [HEQ.out] at hr4 ⊢
  have HB4 := hide (HB3.out.trans (hb4.mono HB3.out.size))
  have HR34 := hide (HR3.out.below hb4)
  have HR4 := hide hr4
  clear hb4 hr4
  go_wp2_with fail
  refine (sameList_any a3 _ c3 a4 c4 Sa.Q w4 HR34.out HR4.out (by have := HQ.out; omega)).mono ?_
  rintro e w5 ⟨rfl, hs5⟩
  have HB5 := hide (Below.same' HB4.out hs5)
  clear hs5
  go_wp2_with fail
  go_loopw [11] (fun i wr => ∃ k : Nat, k ≤ n0 ∧ i = .int .i64 k ∧ Below w2.heap.size w2 wr) (fun i _ => n0 - (intOf i).toNat)
  case atStart => exact ⟨0, Nat.zero_le _, rfl, HB5.out⟩
  case round =>
    obtain ⟨k, hk, rfl, hbel⟩ := hrel
    have HB6 := hide hbel
    clear hbel
    by_cases hlt : k < n0
    · obtain ⟨b, off, rfl, hc⟩ := (R0.out.below HB6.out) (by omega)
      have hck := hc k hlt
      have hkl : k < rs.length := by rw [HL.out]; exact hlt
      unfold strAt at hck
      rw [getD_at hkl] at hck
      have hrz := HSZ.out _ (List.getElem_mem hkl)
      generalize rs[k] = r at hck hrz
      have HRZ := hide hrz
      clear hc hrz hkl
      go_wp2_with fail
      refine (zzKnown_any (HA.out.below HB6.out) r HRZ.out).mono ?_
      rintro e w6 ⟨rfl, hs6⟩
      have HB7 := hide (Below.same' HB6.out hs6)
      have hck6 := (hs6.cell _).trans hck
      clear hs6 hck
      go_wp2_with fail
      refine (zzKnown_any (HBB.out.below HB7.out) r HRZ.out).mono ?_
      rintro e w7 ⟨rfl, hs7⟩
      rw [HEQ.out, HEK.out]
      have HB8 := hide (Below.same' HB7.out hs7)
      clear hs7 hck6
      generalize isIn r Sa.K = x
      generalize isIn r Sa.Q = y
      cases x <;> cases y
      all_goals
        go_wp2
        go_roundw
        case rel => exact ⟨k + 1, by omega, by go_num, HB8.out⟩
        case measure => simp [intOf]; omega
    · go_wp2
      go_ret
      exact ⟨rfl, HB6.out⟩

end Go.Proofs.Qxb6000035a
