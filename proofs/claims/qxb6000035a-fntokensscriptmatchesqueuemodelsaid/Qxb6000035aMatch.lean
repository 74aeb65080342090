/-
  zzMatchesModel (13): a Tokens and the slices that hold its names and its queue.
-/
import Derived.Test.Qxb6000035aRun
set_option linter.unusedSimpArgs false
set_option linter.unusedVariables false
namespace Go.Proofs.Qxb6000035a
open Go.RowKit

theorem IdxOf.ge {xs : List ByteArray} {x : ByteArray} {i : Int} (h : IdxOf xs x i) : decide (0 ≤ i) = isIn x xs := by
  rcases h with ⟨rfl, hx⟩ | ⟨k, rfl, hk, e⟩
  · rw [isIn_no hx]; rfl
  · rw [isIn_yes (by rw [← e]; exact List.getElem_mem hk)]
    simp
theorem IdxOf.ge_iff {xs : List ByteArray} {x : ByteArray} {i : Int} (h : IdxOf xs x i) : 0 ≤ i ↔ x ∈ xs := by
  rcases h with ⟨rfl, hx⟩ | ⟨k, rfl, hk, e⟩
  · simp [hx]
  · simp [← e]
theorem IdxOf.lt_iff {xs : List ByteArray} {x : ByteArray} {i : Int} (h : IdxOf xs x i) : i < 0 ↔ x ∉ xs := by
  rw [← h.ge_iff]; omega

set_option maxHeartbeats 2000000 in
theorem matches_any {w : World} {S : TS} (h : Tok w S) (a0 : Option Addr) (n0 c0 : Nat) (rs : List ByteArray) (r0 : RowV w a0 n0 (strAt rs)) (l0 : rs.length = n0) (b0 : n0 ≤ 4096) (hsz : ∀ x ∈ rs, x.size ≤ maxLen)
    (a1 : Option Addr) (c1 nK : Nat) (r1 : RowV w a1 nK (strAt S.K)) (lK : S.K.length = nK) (hnK : nK ≤ 4097) (a2 : Option Addr) (c2 nQ : Nat) (r2 : RowV w a2 nQ (strAt S.Q)) (lQ : S.Q.length = nQ) (hnQ : nQ ≤ 4097) :
    Calls Try.prog 13 #[.pointer (some ⟨S.tb, 0, none⟩), .slice a0 n0 c0, .slice a1 nK c1, .slice a2 nQ c2] w fun e w' => e = .returned (.bool true) ∧ Below w.heap.size w w' := by
  have HA := hide h
  have R0 := hide r0
  have R1 := hide r1
  have R2 := hide r2
  have HL := hide l0
  have HLK := hide lK
  have HLQ := hide lQ
  have HSZ := hide hsz
  clear h r0 r1 r2 l0 lK lQ hsz
  go_enter Try.func13, Try.ntmps13
  go_wp2_with fail
  refine (zzFrees_any HA.out).mono ?_
  rintro e w1 ⟨rfl, rfl⟩
  rw [HLQ.out]
  go_wp2_with fail
  refine (walk_any HA.out nQ (by rw [HLQ.out]; exact Nat.le_refl _) (by omega)).mono ?_
  rintro e w3 ⟨a3, c3, rfl, hr3, hb3⟩
  rw [HLQ.out] at hr3 ⊢
  have HB3 := hide hb3
  have HR3 := hide hr3
  clear hb3 hr3
  go_wp2_with fail
  refine (sameList_any a3 nQ c3 a2 c2 S.Q w3 HR3.out (R2.out.below HB3.out) (by omega)).mono ?_
  rintro e w5 ⟨rfl, hs5⟩
  have HB5 := hide (Below.same' HB3.out hs5)
  clear hs5
  go_wp2_with fail
  go_loopw [11] (fun i wr => ∃ k : Nat, k ≤ n0 ∧ i = .int .i64 k ∧ Below w1.heap.size w1 wr) (fun i _ => n0 - (intOf i).toNat)
  case atStart => exact ⟨0, Nat.zero_le _, rfl, HB5.out⟩
  case round =>
    obtain ⟨k, hk, rfl, hbel⟩ := hrel
    have HB6 := hide hbel
    clear hbel
    by_cases hlt : k < n0
    · obtain ⟨b, off, rfl, hc⟩ := (R0.out.below HB6.out) (by omega)
      have hck := hc k hlt
      have hkl : k < rs.length := by rw [HL.out]; exact hlt
      unfold strAt at hck
      rw [getD_at hkl] at hck
      have hrz := HSZ.out _ (List.getElem_mem hkl)
      generalize rs[k] = r at hck hrz
      have HRZ := hide hrz
      clear hc hrz hkl
      go_wp2_with fail
      refine (zzKnown_any (HA.out.below HB6.out) r HRZ.out).mono ?_
      rintro e w6 ⟨rfl, hs6⟩
      have HB7 := hide (Below.same' HB6.out hs6)
      have hck6 := (hs6.cell _).trans hck
      clear hs6 hck
      go_wp2_with fail
      refine (index_any a1 nK c1 S.K r w6 (R1.out.below HB7.out) HLK.out (by omega)).mono ?_
      rintro e w7 ⟨i1, rfl, rfl, hi1⟩
      have hg1 := hi1.ge
      generalize isIn r S.K = x at hg1
      clear hi1
      cases x
      · have hi1 : i1 < 0 := by simpa using hg1
        clear hg1
        go_wp2_with fail
        refine (index_any a2 nQ c2 S.Q r w7 (R2.out.below HB7.out) HLQ.out (by omega)).mono ?_
        rintro e w8 ⟨i2, rfl, rfl, hi2⟩
        have hg2 := hi2.ge
        generalize isIn r S.Q = y at hg2
        clear hi2
        cases y
        · have hi2 : i2 < 0 := by simpa using hg2
          clear hg2
          go_wp2
          go_roundw
          case rel => exact ⟨k + 1, by omega, by go_num, HB7.out⟩
          case measure => simp [intOf]; omega
        · have hi2 : 0 ≤ i2 := by simpa using hg2
          clear hg2
          go_wp2
          go_roundw
          case rel => exact ⟨k + 1, by omega, by go_num, HB7.out⟩
          case measure => simp [intOf]; omega
      · have hi1 : 0 ≤ i1 := by simpa using hg1
        clear hg1
        go_wp2_with fail
        refine (index_any a2 nQ c2 S.Q r w7 (R2.out.below HB7.out) HLQ.out (by omega)).mono ?_
        rintro e w8 ⟨i2, rfl, rfl, hi2⟩
        have hg2 := hi2.ge
        generalize isIn r S.Q = y at hg2
        clear hi2
        cases y
        · have hi2 : i2 < 0 := by simpa using hg2
          clear hg2
          go_wp2
          go_roundw
          case rel => exact ⟨k + 1, by omega, by go_num, HB7.out⟩
          case measure => simp [intOf]; omega
        · have hi2 : 0 ≤ i2 := by simpa using hg2
          clear hg2
          go_wp2
          go_roundw
          case rel => exact ⟨k + 1, by omega, by go_num, HB7.out⟩
          case measure => simp [intOf]; omega
    · go_wp2
      go_ret
      exact ⟨rfl, HB6.out⟩

end Go.Proofs.Qxb6000035a
