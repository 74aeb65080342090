/-
  FnTokensScriptMatchesQueueModel (3), FnUnlinkTakesOutOnlyItsEntry (4): the laws' walks.
-/
import Derived.Test.Qxb6000035aRunMod
import Derived.Test.Qxb6000035aSame
set_option linter.unusedSimpArgs false
set_option linter.unusedVariables false
namespace Go.Proofs.Qxb6000035a
open Go.RowKit

def Law (w : World) (e : Ending) (w' : World) : Prop := e = .returned (.bool true) ∧ Below w.heap.size w w'

theorem S0_foot' (tb : Nat) (fg : Int) (k : Nat) : (S0 tb fg).foot k ↔ k = tb := by
  constructor
  · rintro (rfl | h | ⟨s, hs, _⟩)
    · rfl
    · cases h
    · cases hs
  · rintro rfl; exact Or.inl rfl

theorem Mod.callMatch {w wr : World} {S S' : TS} {s : KQ} {ak aq : Option Addr} {ck cq nk nq : Nat} (h : Mod w S s s.1 s.2 wr S' (.slice ak nk ck) (.slice aq nq cq)) (ek : s.1.length = nk) (eq : s.2.length = nq) (lk : nk ≤ 4097) (lq : nq ≤ 4097)
    (a0 : Option Addr) (n0 c0 : Nat) (rs : List ByteArray) (r0 : RowV wr a0 n0 (strAt rs)) (l0 : rs.length = n0) (b0 : n0 ≤ 4096) (hsz : ∀ x ∈ rs, x.size ≤ maxLen) :
    Calls Try.prog 13 #[.pointer (some ⟨S.tb, 0, none⟩), .slice a0 n0 c0, .slice ak nk ck, .slice aq nq cq] wr fun e w' => e = .returned (.bool true) ∧ Below wr.heap.size wr w' := by
  subst ek
  subst eq
  obtain ⟨_, a1, c1, e1, rk⟩ := owns_row h.ok
  obtain ⟨_, a2, c2, e2, rq⟩ := owns_row h.oq
  simp only [Value.slice.injEq] at e1 e2
  obtain ⟨f1, _, f2⟩ := e1
  obtain ⟨f3, _, f4⟩ := e2
  rw [← f1] at rk
  rw [← f3] at rq
  have h1 := matches_any h.ran.tok a0 n0 c0 rs r0 l0 b0 hsz ak ck s.1.length (by rw [h.ran.K]; exact rk) (by rw [h.ran.K]) lk aq cq s.2.length (by rw [h.ran.Q]; exact rq) (by rw [h.ran.Q]) lq
  rw [h.ran.tb] at h1
  exact h1

theorem runMod_all {w : World} {S : TS} (h : Tok w S) (hK0 : S.K = []) (hQ0 : S.Q = []) {B : Nat} (hB : ∀ k, S.foot k → B ≤ k) (hBw : B ≤ w.heap.size)
    (a0 : Option Addr) (n0 c0 : Nat) (a1 : Option Addr) (n1 c1 : Nat) (a2 : Option Addr) (n2 c2 : Nat) (rs : List ByteArray) (ks : List Bool) (ps : List Int)
    (r0 : RowB B w a0 n0 (strAt rs)) (r1 : RowB B w a1 n1 (boolAt ks)) (r2 : RowB B w a2 n2 (u16At ps)) (l0 : rs.length = n0)
    (b0 : n0 ≤ 4096) (b1 : n1 ≤ 4096) (b2 : n2 ≤ 4096) (hsz : ∀ x ∈ rs, x.size ≤ maxLen) (hps : ∀ i, 0 ≤ ps.getD i 0 ∧ ps.getD i 0 ≤ 65535) (fg : Int) (hfg : S.fg = fg) :
    Calls Try.prog 12 #[.pointer (some ⟨S.tb, 0, none⟩), .int .u64 fg, .slice a0 n0 c0, .slice a1 n1 c1, .slice a2 n2 c2] w (ModPost w S) := by
  rcases Nat.eq_zero_or_pos n0 with e | hpos
  · subst e
    exact runMod_none h hK0 hQ0 a0 c0 a1 n1 c1 a2 n2 c2 fg
  · exact runMod_any h hK0 hQ0 hB hBw a0 n0 c0 a1 n1 c1 a2 n2 c2 rs ks ps r0 r1 r2 l0 hpos b0 b1 b2 hsz hps fg hfg

set_option maxHeartbeats 4000000 in
theorem law3 (a0 : Option Addr) (n0 c0 : Nat) (a1 : Option Addr) (n1 c1 : Nat) (a2 : Option Addr) (n2 c2 : Nat) (t : Int) (rs : List ByteArray) (ks : List Bool) (ps : List Int) (w : World)
    (r0 : RowV w a0 n0 (strAt rs)) (r1 : RowV w a1 n1 (boolAt ks)) (r2 : RowV w a2 n2 (u16At ps)) (l0 : rs.length = n0)
    (z0 : a0 = none → n0 = 0 ∧ c0 = 0) (z1 : a1 = none → n1 = 0 ∧ c1 = 0) (z2 : a2 = none → n2 = 0 ∧ c2 = 0)
    (m0 : n0 ≤ maxLen) (m1 : n1 ≤ maxLen) (m2 : n2 ≤ maxLen) (hsz : ∀ x ∈ rs, x.size ≤ maxLen) (hps : ∀ i, 0 ≤ ps.getD i 0 ∧ ps.getD i 0 ≤ 65535) :
    Calls Try.prog 3 #[.int .u64 t, .slice a0 n0 c0, .slice a1 n1 c1, .slice a2 n2 c2] w (Law w) := by
  obtain ⟨i0, hi, hz0, hz1, hz2⟩ := info_parts Try.info9
  have R0 := hide r0
  have R1 := hide r1
  have R2 := hide r2
  have Z0 := hide z0
  have Z1 := hide z1
  have Z2 := hide z2
  have HSZ := hide hsz
  have HPS := hide hps
  have HL := hide l0
  clear r0 r1 r2 z0 z1 z2 hsz hps l0
  go_enter Try.func3, Try.ntmps3
  go_wp2_with fail
  refine (bytes6_any t a0 n0 c0 a1 n1 c1 a2 n2 c2 rs w R0.out m0 m1 m2).mono ?_
  rintro e w1 ⟨b1, rfl, rfl⟩
  cases b1
  · go_wp2
    go_ret
    exact ⟨rfl, Below.refl _ _⟩
  go_wp2_with fail
  refine (sizeOK_any a0 n0 c0 a1 n1 c1 a2 n2 c2 rs w1 R0.out m0 m1 m2).mono ?_
  rintro e w2 ⟨b2, rfl, rfl, hok⟩
  cases b2
  · go_wp2
    go_ret
    exact ⟨rfl, Below.refl _ _⟩
  obtain ⟨k0, k1, k2⟩ := hok rfl
  clear hok m0 m1 m2
  go_wp2_with fail
  refine (copyStr_any a0 n0 c0 rs w2 R0.out Z0.out k0).mono ?_
  rintro e w3 ⟨a3, c3, rfl, hr3, hb3⟩
  have HR3 := hide hr3
  have HB3 := hide hb3
  clear hr3 hb3
  go_wp2_with fail
  refine (copyBool_any a1 n1 c1 ks w3 (R1.out.below HB3.out) Z1.out k1).mono ?_
  rintro e w4 ⟨a4, c4, rfl, hr4, hb4⟩
  have HR4 := hide hr4
  have HR34 := hide (HR3.out.below hb4)
  have HB4 := hide (HB3.out.trans (hb4.mono HB3.out.size))
  clear hr4 hb4
  go_wp2_with fail
  refine (copyU16_any a2 n2 c2 ps w4 (R2.out.below HB4.out) Z2.out k2).mono ?_
  rintro e w5 ⟨a5, c5, rfl, hr5, hb5⟩
  have Q0 := hide (HR34.out.below hb5).rowB
  have Q1 := hide (HR4.out.below hb5).rowB
  have Q2 := hide hr5.rowB
  have HB5 := hide (HB4.out.trans (hb5.mono HB4.out.size))
  clear hr5 hb5 HR3 HR4 HR34 HB3 HB4 R0 R1 R2 Z0 Z1 Z2
  go_wp2_with fail
  refine (newTokens_any w5 t).mono ?_
  rintro e w6 ⟨rfl, ht6, he6⟩
  have hb6 : Below w5.heap.size w5 w6 := by rw [he6]; exact (Below.refl _ _).alloc (Nat.le_refl _) _
  have hft : ∀ k, (S0 w5.heap.size t).foot k → w5.heap.size ≤ k := fun k q => by rw [S0_foot'] at q; omega
  have HT6 := hide ht6
  have HB6 := hide hb6
  have HF6 := hide hft
  clear ht6 he6 hb6 hft
  go_wp2_with fail
  refine (runMod_all HT6.out rfl rfl HF6.out HB6.out.size a3 n0 c3 a4 n1 c4 a5 n2 c5 rs ks ps (Q0.out.below HB6.out) (Q1.out.below HB6.out) (Q2.out.below HB6.out) HL.out k0 k1 k2 HSZ.out HPS.out t rfl).mono ?_
  rintro e w7 ⟨s, S', vK, vQ, rfl, hm, hsk, hsq⟩
  have HM := hide hm
  clear hm
  have HB7 := hide (HB6.out.trans (HM.out.ran.below HF6.out HB6.out.size))
  obtain ⟨_, ak, ck, rfl, rowK⟩ := owns_row HM.out.ok
  obtain ⟨_, aq, cq, rfl, rowQ⟩ := owns_row HM.out.oq
  clear rowK
  clear rowQ
  go_wp2_with fail
  refine (HM.out.callMatch rfl rfl (by omega) (by omega) a3 n0 c3 rs (Q0.out.below HB7.out).row HL.out k0 HSZ.out).mono ?_
  rintro e w8 ⟨rfl, hb8⟩
  have hfin : Hid (Below w2.heap.size w2 w8) := HB5.out.trans ((HB7.out.mono HB5.out.size).trans (hb8.mono (Nat.le_trans HB5.out.size HB7.out.size)))
  clear hb8
  go_wp2
  go_ret
  exact ⟨rfl, hfin.out⟩

set_option maxHeartbeats 4000000 in
theorem law4 (a0 : Option Addr) (n0 c0 : Nat) (a1 : Option Addr) (n1 c1 : Nat) (a2 : Option Addr) (n2 c2 : Nat) (t : Int) (rs : List ByteArray) (ks : List Bool) (ps : List Int) (w : World)
    (r0 : RowV w a0 n0 (strAt rs)) (r1 : RowV w a1 n1 (boolAt ks)) (r2 : RowV w a2 n2 (u16At ps)) (l0 : rs.length = n0)
    (z0 : a0 = none → n0 = 0 ∧ c0 = 0) (z1 : a1 = none → n1 = 0 ∧ c1 = 0) (z2 : a2 = none → n2 = 0 ∧ c2 = 0)
    (m0 : n0 ≤ maxLen) (m1 : n1 ≤ maxLen) (m2 : n2 ≤ maxLen) (hsz : ∀ x ∈ rs, x.size ≤ maxLen) (hps : ∀ i, 0 ≤ ps.getD i 0 ∧ ps.getD i 0 ≤ 65535) (ht0 : 0 ≤ t) (ht1 : t ≤ 65535) :
    Calls Try.prog 4 #[.slice a0 n0 c0, .slice a1 n1 c1, .slice a2 n2 c2, .int .u16 t] w (Law w) := by
  obtain ⟨i0, hi, hz0, hz1, hz2⟩ := info_parts Try.info9
  have R0 := hide r0
  have R1 := hide r1
  have R2 := hide r2
  have Z0 := hide z0
  have Z1 := hide z1
  have Z2 := hide z2
  have HSZ := hide hsz
  have HPS := hide hps
  have HL := hide l0
  clear r0 r1 r2 z0 z1 z2 hsz hps l0
  go_enter Try.func4, Try.ntmps4
  go_wp2_with fail
  refine (bytes14_any t a0 n0 c0 a1 n1 c1 a2 n2 c2 rs w R0.out m0 m1 m2).mono ?_
  rintro e w1 ⟨b1, rfl, rfl⟩
  cases b1
  · go_wp2
    go_ret
    exact ⟨rfl, Below.refl _ _⟩
  go_wp2_with fail
  refine (sizeOK_any a0 n0 c0 a1 n1 c1 a2 n2 c2 rs w1 R0.out m0 m1 m2).mono ?_
  rintro e w2 ⟨b2, rfl, rfl, hok⟩
  cases b2
  · go_wp2
    go_ret
    exact ⟨rfl, Below.refl _ _⟩
  obtain ⟨k0, k1, k2⟩ := hok rfl
  clear hok m0 m1 m2
  go_wp2_with fail
  refine (copyStr_any a0 n0 c0 rs w2 R0.out Z0.out k0).mono ?_
  rintro e w3 ⟨a3, c3, rfl, hr3, hb3⟩
  have HR3 := hide hr3
  have HB3 := hide hb3
  clear hr3 hb3
  go_wp2_with fail
  refine (copyBool_any a1 n1 c1 ks w3 (R1.out.below HB3.out) Z1.out k1).mono ?_
  rintro e w4 ⟨a4, c4, rfl, hr4, hb4⟩
  have HR4 := hide hr4
  have HR34 := hide (HR3.out.below hb4)
  have HB4 := hide (HB3.out.trans (hb4.mono HB3.out.size))
  clear hr4 hb4
  go_wp2_with fail
  refine (copyU16_any a2 n2 c2 ps w4 (R2.out.below HB4.out) Z2.out k2).mono ?_
  rintro e w5 ⟨a5, c5, rfl, hr5, hb5⟩
  have Q0 := hide (HR34.out.below hb5).rowB
  have Q1 := hide (HR4.out.below hb5).rowB
  have Q2 := hide hr5.rowB
  have HB5 := hide (HB4.out.trans (hb5.mono HB4.out.size))
  clear hr5 hb5 HR3 HR4 HR34 HB3 HB4 R0 R1 R2 Z0 Z1 Z2
  go_wp2_with fail
  refine (newTokens_any w5 0).mono ?_
  rintro e w6 ⟨rfl, ht6, he6⟩
  have hb6 : Below w5.heap.size w5 w6 := by rw [he6]; exact (Below.refl _ _).alloc (Nat.le_refl _) _
  have hft : ∀ k, (S0 w5.heap.size 0).foot k → w5.heap.size ≤ k := fun k q => by rw [S0_foot'] at q; omega
  have HT6 := hide ht6
  have HB6 := hide hb6
  have HF6 := hide hft
  clear ht6 he6 hb6 hft
  go_wp2_with fail
  refine (runMod_all HT6.out rfl rfl HF6.out HB6.out.size a3 n0 c3 a4 n1 c4 a5 n2 c5 rs ks ps (Q0.out.below HB6.out) (Q1.out.below HB6.out) (Q2.out.below HB6.out) HL.out k0 k1 k2 HSZ.out HPS.out 0 rfl).mono ?_
  rintro e w7 ⟨s, S', vK, vQ, rfl, hm, hsk, hsq⟩
  have HM := hide hm
  clear hm
  have HB7 := hide (HB6.out.trans (HM.out.ran.below HF6.out HB6.out.size))
  obtain ⟨_, ak, ck, rfl, rowK⟩ := owns_row HM.out.ok
  obtain ⟨_, aq, cq, rfl, rowQ⟩ := owns_row HM.out.oq
  clear rowK
  have hfin7 : Hid (Below w2.heap.size w2 w7) := HB5.out.trans (HB7.out.mono HB5.out.size)
  have hndq : s.2.Nodup := by have := HM.out.ran.tok.ndQ; rw [HM.out.ran.Q] at this; exact this
  have hsubq : ∀ x ∈ s.2, x ∈ s.1 := by
    intro x hx
    have := HM.out.ran.tok.sub x (by rw [HM.out.ran.Q]; exact hx)
    rw [HM.out.ran.K] at this
    exact this
  have hkz : ∀ x ∈ s.1, x.size ≤ maxLen := by
    intro x hx
    exact HM.out.ran.tok.small x (by rw [HM.out.ran.K]; exact hx)
  have HND := hide hndq
  have HSUB := hide hsubq
  have HKZ := hide hkz
  have HRQ := hide rowQ
  clear hndq hsubq hkz rowQ
  by_cases hq0 : s.2.length = 0
  · have hz : ((s.2.length : Int) == 0) = true := by simp [hq0]
    clear hq0
    go_wp2
    go_ret
    exact ⟨rfl, hfin7.out⟩
  have hqpos : 0 < s.2.length := by omega
  have hz : ((s.2.length : Int) == 0) = false := by simp; exact fun q => hq0 (by rw [q]; rfl)
  clear hq0
  obtain ⟨bb, off, rfl, hc⟩ := HRQ.out hqpos
  obtain ⟨q, rfl⟩ := Int.eq_ofNat_of_zero_le ht0
  have hm0 : 0 ≤ (q : Int) % (s.2.length : Int) := Int.emod_nonneg _ (by omega)
  have hm1 : (q : Int) % (s.2.length : Int) < (s.2.length : Int) := Int.emod_lt_of_pos _ (by omega)
  have hjl : q % s.2.length < s.2.length := Nat.mod_lt _ hqpos
  have hcr := hc (q % s.2.length) hjl
  unfold strAt at hcr
  rw [getD_at hjl] at hcr
  have hrQ : s.2[q % s.2.length] ∈ s.2 := List.getElem_mem hjl
  have hge : s.2[q % s.2.length]? = some s.2[q % s.2.length] := List.getElem?_eq_getElem hjl
  have hdel := del_at HND.out hge
  generalize s.2[q % s.2.length] = r at hcr hrQ hdel hge
  have HDEL := hide hdel
  have HRM := hide hrQ
  clear hc hdel hrQ hge
  go_wp2_with fail
  refine (HM.out.callUnlink r HRM.out (by omega)).mono ?_
  rintro e w8 ⟨rfl, S8, hm8⟩
  have HM8 := hide hm8
  clear hm8 hcr
  obtain ⟨_, aq8, cq8, eq8, rowQ8⟩ := owns_row HM8.out.oq
  cases eq8
  have HRQ8 := hide rowQ8
  clear rowQ8
  have hcast : ((q : Int) % (s.2.length : Int)) = ((q % s.2.length : Nat) : Int) := by simp
  have hrm := removeAt_any (some ⟨bb, off, none⟩) s.2.length cq (q % s.2.length) s.2 w8 HRQ8.out rfl (by omega)
  rw [← hcast, HDEL.out] at hrm
  have HRMV := hide hrm
  clear hrm hcast hjl
  go_wp2_with fail
  refine HRMV.out.mono ?_
  rintro e w9 ⟨v9, rfl, ho9, hb9⟩
  have HM9 := hide (HM8.out.newQ ho9 hb9)
  clear ho9 hb9
  obtain ⟨_, aq9, cq9, rfl, rowQ9⟩ := owns_row HM9.out.oq
  clear rowQ9
  have hdl := del_len s.2 r
  have HB9 := hide (HB6.out.trans (HM9.out.ran.below HF6.out HB6.out.size))
  go_wp2_with fail
  refine ((Mod.turn HM9.out rfl rfl).callMatch rfl rfl (by omega) (by show (del s.2 r).length ≤ _; omega) a3 n0 c3 rs (Q0.out.below HB9.out).row HL.out k0 HSZ.out).mono ?_
  rintro e w10 ⟨rfl, hb10⟩
  have HM10 := hide (HM9.out.below hb10)
  clear hb10
  go_wp2_with fail
  refine (HM10.out.callFree r (HKZ.out r (HSUB.out r HRM.out)) (by show (del s.2 r).length ≤ _; omega)).mono ?_
  rintro e w11 ⟨rfl, S11, hm11⟩
  have hno : r ∉ del s.2 r := fun q => ((mem_del HND.out).1 q).1 rfl
  have hst := stp_free_yes (s := (s.1, del s.2 r)) (r := r) (HSUB.out r HRM.out) hno
  have HM11 := hide hm11
  have HST := hide hst
  clear hm11 hno hst
  have hoq := HM11.out.oq
  have hsz11 : w6.heap.size ≤ w11.heap.size := HM11.out.ran.fr.size
  go_wp2_with (at_builtin; go_must (refine wpList_append_own_at _ rfl _ _ 23 rfl w6.heap.size 9 i0 (.string ⟨#[]⟩) 1 16 Try.underlying23 hi hz0 hz1 hz2 rfl (by decide) _ _ _ rfl (hoq.alloc _) ⟨w11.heap.size, 0, none⟩ 1 1 [.string r] rfl rfl (cell_one_new _ _ _) (by intro u hu; simp at hu; subst hu; rfl) (by unfold maxLen; omega) (by omega) (by simp; omega) ?_); intro v' w12 hown12 hgrow hnil hloc)
  have HM12 := hide (((HM11.out.alloc _).appQ hown12 hgrow hloc).turn HST.out.1 HST.out.2)
  clear hown12 hgrow hnil hloc hoq
  obtain ⟨_, aq12, cq12, rfl, rowQ12⟩ := owns_row HM12.out.oq
  clear rowQ12
  have HB12 := hide (HB6.out.trans (HM12.out.ran.below HF6.out HB6.out.size))
  have el1 : (stp (s.1, del s.2 r) r false).1.length = s.1.length := by rw [HST.out.1]
  have el2 : (stp (s.1, del s.2 r) r false).2.length = (del s.2 r).length + 1 := by rw [HST.out.2]; simp
  refine (HM12.out.callMatch el1 rfl (by omega) (by omega) a3 n0 c3 rs (Q0.out.below HB12.out).row HL.out k0 HSZ.out).mono ?_
  rintro e w13 ⟨rfl, hb13⟩
  have hfin : Hid (Below w2.heap.size w2 w13) := HB5.out.trans ((HB12.out.mono HB5.out.size).trans (hb13.mono (Nat.le_trans HB5.out.size HB12.out.size)))
  clear hb13
  go_wp2
  go_ret
  exact ⟨rfl, hfin.out⟩

end Go.Proofs.Qxb6000035a
