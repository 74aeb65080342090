/-
  zzRunModelled (12).
-/
import Derived.Test.Qxb6000035aModel
set_option linter.unusedSimpArgs false
set_option linter.unusedVariables false
namespace Go.Proofs.Qxb6000035a
open Go.RowKit

/-- What zzRunModelled leaves. -/
def ModPost (w : World) (S : TS) (e : Ending) (w' : World) : Prop :=
  ∃ (s : KQ) (S' : TS) (vK vQ : Value), e = .returned (.tuple #[vK, vQ, .bool true]) ∧ Mod w S s s.1 s.2 w' S' vK vQ ∧ s.1.length ≤ 4096 ∧ s.2.length ≤ 4096
theorem ModPost.mk {w w' : World} {S S' : TS} {s : KQ} {vK vQ : Value} (h : Mod w S s s.1 s.2 w' S' vK vQ) (h1 : s.1.length ≤ 4096) (h2 : s.2.length ≤ 4096) : ModPost w S (.returned (.tuple #[vK, vQ, .bool true])) w' :=
  ⟨s, S', vK, vQ, rfl, h, h1, h2⟩

theorem stp_hold_new {s : KQ} {r : ByteArray} (h : r ∉ s.1) (hs : ∀ x ∈ s.2, x ∈ s.1) : (stp s r true).1 = s.1 ++ [r] ∧ (stp s r true).2 = s.2 := by
  constructor
  · simp [stp, addK, isIn_no h]
  · simp [stp]; exact del_not_mem (fun q => h (hs r q))
theorem stp_hold_old {s : KQ} {r : ByteArray} (h : r ∈ s.1) : (stp s r true).1 = s.1 ∧ (stp s r true).2 = del s.2 r := by
  constructor
  · simp [stp, addK, isIn_yes h]
  · simp [stp]
theorem stp_free_yes {s : KQ} {r : ByteArray} (h : r ∈ s.1) (h2 : r ∉ s.2) : (stp s r false).1 = s.1 ∧ (stp s r false).2 = s.2 ++ [r] := by
  simp [stp, freeQ, isIn_yes h, isIn_no h2]
theorem stp_free_no {s : KQ} {r : ByteArray} (h : r ∉ s.1 ∨ r ∈ s.2) : (stp s r false).1 = s.1 ∧ (stp s r false).2 = s.2 := by
  rcases h with h | h
  · simp [stp, freeQ, isIn_no h]
  · simp [stp, freeQ, isIn_yes h]

/-- The j-th goes: the name goes. -/
theorem del_at {Q : List ByteArray} (hn : Q.Nodup) {j : Nat} {y : ByteArray} (hj : Q[j]? = some y) : Q.eraseIdx j = del Q y := by
  obtain ⟨A, B, e1, e2, hA, hB, _⟩ := part Q y hn (List.mem_of_getElem? hj)
  unfold del
  rw [e2]
  subst e1
  have hj2 : j = A.length := by
    rcases Nat.lt_trichotomy j A.length with q | q | q
    · rw [List.getElem?_append_left q] at hj
      exact absurd (List.mem_of_getElem? hj) hA
    · exact q
    · rw [List.getElem?_append_right (by omega)] at hj
      obtain ⟨m, hm⟩ : ∃ m, j - A.length = m + 1 := ⟨j - A.length - 1, by omega⟩
      rw [hm] at hj
      simp at hj
      exact absurd (List.mem_of_getElem? hj) hB
  subst hj2
  rw [List.eraseIdx_append_of_length_le (Nat.le_refl _)]
  simp

/-- The round's ends: what is to be shown, in one lemma. -/
theorem Mod.turn {w wr : World} {S S' : TS} {s2 : KQ} {lk lq : List ByteArray} {vK vQ : Value} (h : Mod w S s2 lk lq wr S' vK vQ) (e1 : s2.1 = lk) (e2 : s2.2 = lq) : Mod w S s2 s2.1 s2.2 wr S' vK vQ := by
  rw [e1, e2]; exact h

theorem runMod_none {w : World} {S : TS} (h : Tok w S) (hK0 : S.K = []) (hQ0 : S.Q = []) (a0 : Option Addr) (c0 : Nat) (a1 : Option Addr) (n1 c1 : Nat) (a2 : Option Addr) (n2 c2 : Nat) (fg : Int) :
    Calls Try.prog 12 #[.pointer (some ⟨S.tb, 0, none⟩), .int .u64 fg, .slice a0 0 c0, .slice a1 n1 c1, .slice a2 n2 c2] w (ModPost w S) := by
  have hm := Mod.start h hK0 hQ0
  have hfin := hide (ModPost.mk hm (by simp) (by simp))
  have hc := hide hm.callFrees
  clear hm h hK0 hQ0
  go_enter Try.func12, Try.ntmps12
  go_wp2_with fail
  refine hc.out.mono ?_
  rintro e w1 ⟨rfl, rfl⟩
  go_wp2
  go_ret3
  exact hfin.out

set_option maxHeartbeats 4000000 in
set_option maxRecDepth 100000 in
theorem runMod_any {w : World} {S : TS} (h : Tok w S) (hK0 : S.K = []) (hQ0 : S.Q = []) {B : Nat} (hB : ∀ k, S.foot k → B ≤ k) (hBw : B ≤ w.heap.size)
    (a0 : Option Addr) (n0 c0 : Nat) (a1 : Option Addr) (n1 c1 : Nat) (a2 : Option Addr) (n2 c2 : Nat) (rs : List ByteArray) (ks : List Bool) (ps : List Int)
    (r0 : RowB B w a0 n0 (strAt rs)) (r1 : RowB B w a1 n1 (boolAt ks)) (r2 : RowB B w a2 n2 (u16At ps)) (l0 : rs.length = n0) (hpos : 0 < n0)
    (b0 : n0 ≤ 4096) (b1 : n1 ≤ 4096) (b2 : n2 ≤ 4096) (hsz : ∀ x ∈ rs, x.size ≤ maxLen) (hps : ∀ i, 0 ≤ ps.getD i 0 ∧ ps.getD i 0 ≤ 65535) (fg : Int) (hfg : S.fg = fg) :
    Calls Try.prog 12 #[.pointer (some ⟨S.tb, 0, none⟩), .int .u64 fg, .slice a0 n0 c0, .slice a1 n1 c1, .slice a2 n2 c2] w (ModPost w S) := by
  obtain ⟨i0, hi, hz0, hz1, hz2⟩ := info_parts Try.info9
  obtain ⟨bb0, of0, rfl, hb0, hc0⟩ := r0 hpos
  have HST := hide (Mod.start h hK0 hQ0)
  have HB := hide hB
  have HSZ := hide hsz
  have HL := hide l0
  have R0 := hide r0
  have HFG := hide hfg
  have HPS := hide hps
  have R1 := hide r1
  have R2 := hide r2
  have hN1 : min n1 n2 ≤ n1 := Nat.min_le_left _ _
  have hN2 : min n1 n2 ≤ n2 := Nat.min_le_right _ _
  clear hB hsz h l0 hK0 hQ0 hc0 r0 hfg hps r1 r2
  go_enter Try.func12, Try.ntmps12
  go_wp2_with fail
  refine (steps_any _ _ _ _ _ _ _).mono ?_
  rintro e w1 ⟨rfl, rfl⟩
  generalize min n1 n2 = N at hN1 hN2 ⊢
  go_wp2_with fail
  go_loopw [13, 14, 16] (fun vK vQ i wr => ∃ (k : Nat) (s : KQ) (S' : TS), k ≤ N ∧ i = .int .i64 k ∧ Mod w1 S s s.1 s.2 wr S' vK vQ ∧ s.1.length ≤ k ∧ s.2.length ≤ k) (fun _ _ i _ => N - (intOf i).toNat)
  case atStart => exact ⟨0, ([], []), S, Nat.zero_le _, rfl, HST.out, by simp, by simp⟩
  case round =>
    obtain ⟨k, s, S', hk, rfl, hm, hsk, hsq⟩ := hrel
    have HM := hide hm
    clear hm
    have hbel := HM.out.ran.below HB.out hBw
    by_cases hlt : k < N
    · obtain ⟨bb0', of0', e0, _, hc0⟩ := (R0.out.below hbel) hpos
      cases e0
      obtain ⟨bb1, of1, rfl, _, hc1⟩ := (R1.out.below hbel) (by omega)
      obtain ⟨bb2, of2, rfl, _, hc2⟩ := (R2.out.below hbel) (by omega)
      have hp := HPS.out k
      have hcp := hc2 k (by omega)
      have hck := hc1 k (by omega)
      have hcr := hc0 ((ps.getD k 0).toNat % n0) (Nat.mod_lt _ hpos)
      have hpk : rs.getD ((ps.getD k 0).toNat % n0) ⟨#[]⟩ = pick rs (ps.getD k 0) := by unfold pick; rw [HL.out]
      unfold strAt at hcr
      unfold boolAt at hck
      unfold u16At at hcp
      rw [hpk] at hcr
      generalize ps.getD k 0 = p at hp hcp hcr hpk
      have hpm : pick rs p ∈ rs := pick_mem rs p (by rw [HL.out]; exact hpos)
      have hps2 := HSZ.out _ hpm
      generalize pick rs p = r at hcr hps2
      generalize ks.getD k false = b at hck
      have HP2 := hide hps2
      clear hc0 hc1 hc2 hpk hpm hps2 hbel
      obtain ⟨hp0, hp1⟩ := hp
      obtain ⟨q, rfl⟩ := Int.eq_ofNat_of_zero_le hp0
      rw [Int.toNat_natCast] at hcr
      have hm0 : 0 ≤ (q : Int) % (n0 : Int) := Int.emod_nonneg _ (by omega)
      have hm1 : (q : Int) % (n0 : Int) < (n0 : Int) := Int.emod_lt_of_pos _ (by omega)
      obtain ⟨_, ak, ck, rfl, rowK⟩ := owns_row HM.out.ok
      obtain ⟨_, aq, cq, rfl, rowQ⟩ := owns_row HM.out.oq
      clear rowK rowQ
      have hsub : ∀ x ∈ s.2, x ∈ s.1 := by
        intro x hx
        have := HM.out.ran.tok.sub x (by rw [HM.out.ran.Q]; exact hx)
        rw [HM.out.ran.K] at this
        exact this
      have hndq : s.2.Nodup := by have := HM.out.ran.tok.ndQ; rw [HM.out.ran.Q] at this; exact this
      have HSUB := hide hsub
      have HND := hide hndq
      clear hsub hndq
      cases b
      · go_wp2_with fail
        refine (HM.out.callFree r HP2.out (by omega)).mono ?_
        rintro e w2 ⟨rfl, S2, hm2⟩
        have HM2 := hide hm2
        clear hm2 hcr hck hcp
        obtain ⟨lK2, ak2, ck2, eK2, rowK2⟩ := owns_row HM2.out.ok
        cases eK2
        have RK2 := hide rowK2
        clear rowK2
        go_wp2_with fail
        refine (index_any _ _ _ s.1 r w2 RK2.out rfl (by omega)).mono ?_
        rintro e w3 ⟨i1, rfl, rfl, hi1⟩
        by_cases hrK : r ∈ s.1
        · have hi1' := hi1.ge_iff.2 hrK
          clear hi1
          obtain ⟨lQ2, aq2, cq2, eQ2, rowQ2⟩ := owns_row HM2.out.oq
          cases eQ2
          have RQ2 := hide rowQ2
          have HRK := hide hrK
          clear rowQ2 hrK
          go_wp2_with fail
          refine (index_any _ _ _ s.2 r w3 RQ2.out rfl (by omega)).mono ?_
          rintro e w4 ⟨i2, rfl, rfl, hi2⟩
          by_cases hrQ : r ∈ s.2
          · have hi2' := hi2.ge_iff.2 hrQ
            obtain ⟨e1, e2⟩ := stp_free_no (s := s) (r := r) (Or.inr hrQ)
            have HM3 := hide (HM2.out.turn e1 e2)
            have HE := hide e2
            have hl2 := stp_len s r false
            clear hi2 hrQ e1 e2
            go_wp2_with fail
            refine HM2.out.callFrees.mono ?_
            rintro e w5 ⟨rfl, rfl⟩
            rw [HE.out]
            go_wp2
            go_roundw
            case rel => exact ⟨k + 1, stp s r false, S2, by omega, by go_num, HM3.out, by omega, by omega⟩
            case measure => simp [intOf]; omega
          · have hi2' := hi2.lt_iff.2 hrQ
            obtain ⟨e1, e2⟩ := stp_free_yes (s := s) (r := r) HRK.out hrQ
            have HE1 := hide e1
            have HE := hide e2
            have hl2 := stp_len s r false
            clear hi2 hrQ e1 e2
            have hsz4 : w1.heap.size ≤ w4.heap.size := HM2.out.ran.fr.size
            have hoq := HM2.out.oq
            go_wp2_with (at_builtin; go_must (refine wpList_append_own_at _ rfl _ _ 23 rfl w1.heap.size 9 i0 (.string ⟨#[]⟩) 1 16 Try.underlying23 hi hz0 hz1 hz2 rfl (by decide) _ _ _ rfl (hoq.alloc _) ⟨w4.heap.size, 0, none⟩ 1 1 [.string r] rfl rfl (cell_one_new _ _ _) (by intro u hu; simp at hu; subst hu; rfl) (by unfold maxLen; omega) (by omega) (by simp; omega) ?_); intro v' w5 hown5 hgrow hnil hloc)
            have hM5 := (HM2.out.alloc _).appQ hown5 hgrow hloc
            have HM5 := hide hM5
            clear hM5 hown5 hgrow hnil hloc hoq
            obtain ⟨lQ5, aq5, cq5, rfl, rowQ5⟩ := owns_row HM5.out.oq
            clear rowQ5
            refine HM5.out.callFrees.mono ?_
            rintro e w6 ⟨rfl, rfl⟩
            rw [HE.out]
            go_wp2
            go_roundw
            case rel =>
              have hq5 := HM5.out.turn HE1.out HE.out
              rw [show (s.2 ++ [r]).length = s.2.length + 1 from by simp] at hq5
              exact ⟨k + 1, stp s r false, S2, by omega, by go_num, hq5, by omega, by omega⟩
            case measure => simp [intOf]; omega
        · have hi1' := hi1.lt_iff.2 hrK
          obtain ⟨e1, e2⟩ := stp_free_no (s := s) (r := r) (Or.inl hrK)
          have HM3 := hide (HM2.out.turn e1 e2)
          have HE := hide e2
          have hl2 := stp_len s r false
          clear hi1 hrK e1 e2
          go_wp2_with fail
          refine HM2.out.callFrees.mono ?_
          rintro e w5 ⟨rfl, rfl⟩
          rw [HE.out]
          go_wp2
          go_roundw
          case rel => exact ⟨k + 1, stp s r false, S2, by omega, by go_num, HM3.out, by omega, by omega⟩
          case measure => simp [intOf]; omega
      · go_wp2_with fail
        refine (HM.out.callHold r HP2.out (by omega) (by omega)).mono ?_
        rintro e w2 ⟨rfl, S2, hm2⟩
        rw [HFG.out]
        have HM2 := hide hm2
        clear hm2 hcr hck hcp
        obtain ⟨lK2, ak2, ck2, eK2, rowK2⟩ := owns_row HM2.out.ok
        cases eK2
        have RK2 := hide rowK2
        clear rowK2
        go_wp2_with fail
        refine (index_any _ _ _ s.1 r w2 RK2.out rfl (by omega)).mono ?_
        rintro e w3 ⟨i1, rfl, rfl, hi1⟩
        have hl2 := stp_len s r true
        have hsz4 : w1.heap.size ≤ w3.heap.size := HM2.out.ran.fr.size
        by_cases hrK : r ∈ s.1
        · have hi1' := hi1.ge_iff.2 hrK
          clear hi1
          obtain ⟨e1, e2⟩ := stp_hold_old (s := s) (r := r) hrK
          obtain ⟨lQ2, aq2, cq2, eQ2, rowQ2⟩ := owns_row HM2.out.oq
          cases eQ2
          have RQ2 := hide rowQ2
          have HE1 := hide e1
          have HE := hide e2
          clear rowQ2 hrK e1 e2
          go_wp2_with fail
          refine (index_any _ _ _ s.2 r w3 RQ2.out rfl (by omega)).mono ?_
          rintro e w4 ⟨i2, rfl, rfl, hi2⟩
          rcases hi2 with ⟨rfl, hrQ⟩ | ⟨j, rfl, hj, hjr⟩
          · have e3 : del s.2 r = s.2 := del_not_mem hrQ
            have HM3 := hide (HM2.out.turn HE1.out (HE.out.trans e3))
            have HE2 := hide (HE.out.trans e3)
            clear hrQ e3
            go_wp2_with fail
            refine HM2.out.callFrees.mono ?_
            rintro e w5 ⟨rfl, rfl⟩
            rw [HE2.out]
            go_wp2
            go_roundw
            case rel => exact ⟨k + 1, stp s r true, S2, by omega, by go_num, HM3.out, by omega, by omega⟩
            case measure => simp [intOf]; omega
          · have e3 : s.2.eraseIdx j = del s.2 r := del_at HND.out (by rw [List.getElem?_eq_getElem hj, hjr])
            have HE3 := hide e3
            clear hjr e3
            go_wp2_with fail
            refine (removeAt_any _ _ _ j s.2 w4 RQ2.out rfl (by omega)).mono ?_
            rintro e w5 ⟨v', rfl, hown5, hb5⟩
            rw [HE3.out] at hown5
            have HM5 := hide (HM2.out.newQ hown5 hb5)
            clear hown5 hb5
            obtain ⟨lQ5, aq5, cq5, rfl, rowQ5⟩ := owns_row HM5.out.oq
            clear rowQ5
            go_wp2_with fail
            refine HM5.out.callFrees.mono ?_
            rintro e w6 ⟨rfl, rfl⟩
            rw [HE.out]
            go_wp2
            go_roundw
            case rel => exact ⟨k + 1, stp s r true, S2, by omega, by go_num, HM5.out.turn HE1.out HE.out, by omega, by omega⟩
            case measure => simp [intOf]; omega
        · have hi1' := hi1.lt_iff.2 hrK
          obtain ⟨e1, e2⟩ := stp_hold_new (s := s) (r := r) hrK HSUB.out
          have HE1 := hide e1
          have HE := hide e2
          clear hi1 hrK e1 e2
          have hok := HM2.out.ok
          go_wp2_with (at_builtin; go_must (refine wpList_append_own_at _ rfl _ _ 23 rfl w1.heap.size 9 i0 (.string ⟨#[]⟩) 1 16 Try.underlying23 hi hz0 hz1 hz2 rfl (by decide) _ _ _ rfl (hok.alloc _) ⟨w3.heap.size, 0, none⟩ 1 1 [.string r] rfl rfl (cell_one_new _ _ _) (by intro u hu; simp at hu; subst hu; rfl) (by unfold maxLen; omega) (by omega) (by simp; omega) ?_); intro v' w5 hown5 hgrow hnil hloc)
          have hM5 := (HM2.out.alloc _).appK hown5 hgrow hloc
          have HM5 := hide hM5
          clear hM5 hown5 hgrow hnil hloc hok
          refine HM5.out.callFrees.mono ?_
          rintro e w6 ⟨rfl, rfl⟩
          rw [HE.out]
          go_wp2
          go_roundw
          case rel => exact ⟨k + 1, stp s r true, S2, by omega, by go_num, HM5.out.turn HE1.out HE.out, by omega, by omega⟩
          case measure => simp [intOf]; omega
    · obtain ⟨_, ak, ck, rfl, rowK⟩ := owns_row HM.out.ok
      obtain ⟨_, aq, cq, rfl, rowQ⟩ := owns_row HM.out.oq
      have hfin := hide (ModPost.mk HM.out (by omega) (by omega))
      clear rowK rowQ hbel
      go_wp2
      go_ret3
      exact hfin.out

end Go.Proofs.Qxb6000035a
