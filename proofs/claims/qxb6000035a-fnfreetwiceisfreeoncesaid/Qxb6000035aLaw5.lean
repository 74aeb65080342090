/-
  FnFreeTwiceIsFreeOnce (5): the law's walk.
-/
import Derived.Test.Qxb6000035aSame
set_option linter.unusedSimpArgs false
set_option linter.unusedVariables false
namespace Go.Proofs.Qxb6000035a
open Go.RowKit

/-- Two Tokens side by side, both made since w0. -/
structure Two (w0 w : World) (Sa Sb : TS) : Prop where
  a : Tok w Sa
  b : Tok w Sb
  apart : ∀ k, Sa.foot k → Sb.foot k → False
  fa : ∀ k, Sa.foot k → w0.heap.size ≤ k
  fb : ∀ k, Sb.foot k → w0.heap.size ≤ k
  bel : Below w0.heap.size w0 w

theorem Two.swap {w0 w : World} {Sa Sb : TS} (h : Two w0 w Sa Sb) : Two w0 w Sb Sa := ⟨h.b, h.a, fun k x y => h.apart k y x, h.fb, h.fa, h.bel⟩
theorem Two.step {w0 w w' : World} {Sa Sb Sa' : TS} {s : KQ} (h : Two w0 w Sa Sb) (r : Ran w Sa s w' Sa') : Two w0 w' Sa' Sb := by
  refine ⟨r.tok, h.b.frame r.fr (fun k q p => h.apart k p q), fun k x y => ?_, fun k x => ?_, h.fb, h.bel.trans (r.below h.fa h.bel.size)⟩
  · rcases r.foot k x with q | q
    · exact h.apart k q y
    · have := h.b.foot_lt y; omega
  · rcases r.foot k x with q | q
    · exact h.fa k q
    · have := h.bel.size; omega

theorem S0_foot (tb : Nat) (fg : Int) (k : Nat) : (S0 tb fg).foot k ↔ k = tb := by
  constructor
  · rintro (rfl | h | ⟨s, hs, _⟩)
    · rfl
    · cases h
    · cases hs
  · rintro rfl; exact Or.inl rfl

theorem freeQ_twice (K Q : List ByteArray) (r : ByteArray) : freeQ K (freeQ K Q r) r = freeQ K Q r := by
  unfold freeQ
  by_cases h : isIn r K = true ∧ isIn r Q = false
  · rw [if_pos h, if_neg]
    rintro ⟨_, q⟩
    rw [isIn_yes (by simp)] at q
    cases q
  · rw [if_neg h, if_neg h]

def True' (w : World) (e : Ending) (w' : World) : Prop := e = .returned (.bool true) ∧ Below w.heap.size w w'

set_option maxHeartbeats 2000000 in
theorem law5 (a0 : Option Addr) (n0 c0 : Nat) (a1 : Option Addr) (n1 c1 : Nat) (a2 : Option Addr) (n2 c2 : Nat) (t : Int) (rs : List ByteArray) (ks : List Bool) (ps : List Int) (w : World)
    (r0 : RowV w a0 n0 (strAt rs)) (r1 : RowV w a1 n1 (boolAt ks)) (r2 : RowV w a2 n2 (u16At ps)) (l0 : rs.length = n0)
    (z0 : a0 = none → n0 = 0 ∧ c0 = 0) (z1 : a1 = none → n1 = 0 ∧ c1 = 0) (z2 : a2 = none → n2 = 0 ∧ c2 = 0)
    (m0 : n0 ≤ maxLen) (m1 : n1 ≤ maxLen) (m2 : n2 ≤ maxLen) (hsz : ∀ x ∈ rs, x.size ≤ maxLen) (hps : ∀ i, 0 ≤ ps.getD i 0 ∧ ps.getD i 0 ≤ 65535) (ht0 : 0 ≤ t) (ht1 : t ≤ 65535) :
    Calls Try.prog 5 #[.slice a0 n0 c0, .slice a1 n1 c1, .slice a2 n2 c2, .int .u16 t] w (True' w) := by
  have R0 := hide r0
  have R1 := hide r1
  have R2 := hide r2
  have Z0 := hide z0
  have Z1 := hide z1
  have Z2 := hide z2
  have HSZ := hide hsz
  have HPS := hide hps
  have HL := hide l0
  clear r0 r1 r2 z0 z1 z2 hsz hps l0
  go_enter Try.func5, Try.ntmps5
  go_wp2_with fail
  refine (bytes18_any t a0 n0 c0 a1 n1 c1 a2 n2 c2 rs w R0.out m0 m1 m2).mono ?_
  rintro e w1 ⟨b1, rfl, rfl⟩
  cases b1
  · go_wp2
    go_ret
    exact ⟨rfl, Below.refl _ _⟩
  go_wp2_with fail
  refine (sizeOK_any a0 n0 c0 a1 n1 c1 a2 n2 c2 rs w1 R0.out m0 m1 m2).mono ?_
  rintro e w2 ⟨b2, rfl, rfl, hok⟩
  cases b2
  · go_wp2
    go_ret
    exact ⟨rfl, Below.refl _ _⟩
  obtain ⟨k0, k1, k2⟩ := hok rfl
  clear hok m0 m1 m2
  by_cases hn0 : n0 = 0
  · have hz : ((n0 : Int) == 0) = true := by simp [hn0]
    clear hn0
    go_wp2
    go_ret
    exact ⟨rfl, Below.refl _ _⟩
  have hpos : 0 < n0 := by omega
  have hz : ((n0 : Int) == 0) = false := by simp [hn0]
  clear hn0
  go_wp2_with fail
  refine (copyStr_any a0 n0 c0 rs w2 R0.out Z0.out k0).mono ?_
  rintro e w3 ⟨a3, c3, rfl, hr3, hb3⟩
  have HR3 := hide hr3
  have HB3 := hide hb3
  clear hr3 hb3
  go_wp2_with fail
  refine (copyBool_any a1 n1 c1 ks w3 (R1.out.below HB3.out) Z1.out k1).mono ?_
  rintro e w4 ⟨a4, c4, rfl, hr4, hb4⟩
  have HR4 := hide hr4
  have HR34 := hide (HR3.out.below hb4)
  have HB4 := hide (HB3.out.trans (hb4.mono HB3.out.size))
  clear hr4 hb4
  go_wp2_with fail
  refine (copyU16_any a2 n2 c2 ps w4 (R2.out.below HB4.out) Z2.out k2).mono ?_
  rintro e w5 ⟨a5, c5, rfl, hr5, hb5⟩
  have Q0 := hide (HR34.out.below hb5).rowB
  have Q1 := hide (HR4.out.below hb5).rowB
  have Q2 := hide hr5.rowB
  have HB5 := hide (HB4.out.trans (hb5.mono HB4.out.size))
  clear hr5 hb5 HR3 HR4 HR34 HB3 HB4 R0 R1 R2 Z0 Z1 Z2
  obtain ⟨bb, off, rfl, hbb, hc⟩ := Q0.out hpos
  obtain ⟨q, rfl⟩ := Int.eq_ofNat_of_zero_le ht0
  have hm0 : 0 ≤ (q : Int) % (n0 : Int) := Int.emod_nonneg _ (by omega)
  have hm1 : (q : Int) % (n0 : Int) < (n0 : Int) := Int.emod_lt_of_pos _ (by omega)
  have hcr := hc (q % n0) (Nat.mod_lt _ hpos)
  unfold strAt at hcr
  have hrl : q % n0 < rs.length := by rw [HL.out]; exact Nat.mod_lt _ hpos
  rw [getD_at hrl] at hcr
  have hrz := HSZ.out _ (List.getElem_mem hrl)
  generalize rs[q % n0] = r at hcr hrz
  have HRZ := hide hrz
  clear hc hrz hrl hbb
  go_wp2_with fail
  refine (newTokens_any w5 0).mono ?_
  rintro e w6 ⟨rfl, ht6, he6⟩
  have hb6 : Below w5.heap.size w5 w6 := by rw [he6]; exact (Below.refl _ _).alloc (Nat.le_refl _) _
  have hs6 : w6.heap.size = w5.heap.size + 1 := by rw [he6]; simp
  have HT6 := hide ht6
  have HB6 := hide hb6
  have HS6 := hide hs6
  clear ht6 he6 hb6 hs6 hcr
  go_wp2_with fail
  refine (newTokens_any w6 0).mono ?_
  rintro e w7 ⟨rfl, ht7, he7⟩
  have hb7 : Below w6.heap.size w6 w7 := by rw [he7]; exact (Below.refl _ _).alloc (Nat.le_refl _) _
  have h2 : Two w5 w7 (S0 w5.heap.size 0) (S0 w6.heap.size 0) := by
    refine ⟨HT6.out.below hb7, ht7, fun k x y => ?_, fun k x => ?_, fun k x => ?_, HB6.out.trans (hb7.mono HB6.out.size)⟩
    · rw [S0_foot] at x y; have := HS6.out; omega
    · rw [S0_foot] at x; omega
    · rw [S0_foot] at x; have := HS6.out; omega
  have H2 := hide h2
  clear ht7 he7 hb7 h2 HT6 HB6 HS6
  go_wp2_with fail
  refine (run_any H2.out.a rfl rfl H2.out.fa H2.out.bel.size (some ⟨bb, off, none⟩) n0 c3 a4 n1 c4 a5 n2 c5 rs ks ps (Q0.out.below H2.out.bel) (Q1.out.below H2.out.bel) (Q2.out.below H2.out.bel) HL.out hpos k0 k1 k2 HSZ.out HPS.out).mono ?_
  rintro e w8 ⟨Sa, rfl, ra⟩
  have H3 := hide (H2.out.step ra)
  have eA := hide (And.intro ra.K (And.intro ra.Q ra.tb))
  clear ra
  go_wp2_with fail
  refine (run_any H3.out.b rfl rfl H3.out.fb H3.out.bel.size (some ⟨bb, off, none⟩) n0 c3 a4 n1 c4 a5 n2 c5 rs ks ps (Q0.out.below H3.out.bel) (Q1.out.below H3.out.bel) (Q2.out.below H3.out.bel) HL.out hpos k0 k1 k2 HSZ.out HPS.out).mono ?_
  rintro e w9 ⟨Sb, rfl, rb⟩
  have H4 := hide (H3.out.swap.step rb).swap
  have eB := hide (And.intro rb.K (And.intro rb.Q rb.tb))
  clear rb
  have hlen := runTo_len rs ks ps (min n1 n2)
  have hlq : (runTo rs ks ps (min n1 n2)).2.length ≤ 4096 := by omega
  have HLQ := hide hlq
  clear hlen hlq
  have f1 := (Ran.start H4.out.a).callFree r HRZ.out (by show Sa.Q.length ≤ _; rw [eA.out.2.1]; have := HLQ.out; omega)
  rw [eA.out.2.2] at f1
  have F1 := hide f1
  clear f1
  go_wp2_with fail
  refine F1.out.mono ?_
  rintro e w10 ⟨rfl, Sa2, ra2⟩
  have H5 := hide (H4.out.step ra2)
  have eA2 := hide (And.intro ra2.K (And.intro ra2.Q ra2.tb))
  clear ra2
  have f1 := (Ran.start H5.out.b).callFree r HRZ.out (by show Sb.Q.length ≤ _; rw [eB.out.2.1]; have := HLQ.out; omega)
  rw [eB.out.2.2] at f1
  have F2 := hide f1
  clear f1
  go_wp2_with fail
  refine F2.out.mono ?_
  rintro e w11 ⟨rfl, Sb2, rb2⟩
  have H6 := hide (H5.out.swap.step rb2).swap
  have eB2 := hide (And.intro rb2.K (And.intro rb2.Q rb2.tb))
  clear rb2
  have f1 := (Ran.start H6.out.b).callFree r HRZ.out (by
    show Sb2.Q.length ≤ _
    rw [eB2.out.2.1]
    have := (stp_len (Sb.K, Sb.Q) r false).2
    have h3 := HLQ.out
    rw [← eB.out.2.1] at h3
    have h4 : ((Sb.K, Sb.Q) : KQ).2.length = Sb.Q.length := rfl
    omega)
  rw [eB2.out.2.2, eB.out.2.2] at f1
  have F3 := hide f1
  clear f1
  go_wp2_with fail
  refine F3.out.mono ?_
  rintro e w12 ⟨rfl, Sb3, rb3⟩
  have H7 := hide (H6.out.swap.step rb3).swap
  have eB3 := hide (And.intro rb3.K (And.intro rb3.Q rb3.tb))
  clear rb3
  have eK : Sb3.K = Sa2.K := by
    rw [eB3.out.1, eA2.out.1]
    show Sb2.K = Sa.K
    rw [eB2.out.1]
    show Sb.K = Sa.K
    rw [eB.out.1, eA.out.1]
  have eQ : Sb3.Q = Sa2.Q := by
    rw [eB3.out.2.1, eA2.out.2.1]
    show freeQ Sb2.K Sb2.Q r = freeQ Sa.K Sa.Q r
    rw [eB2.out.1, eB2.out.2.1]
    show freeQ Sb.K (freeQ Sb.K Sb.Q r) r = freeQ Sa.K Sa.Q r
    rw [freeQ_twice, eB.out.1, eB.out.2.1, eA.out.1, eA.out.2.1]
  have hQn : Sa2.Q.length ≤ n0 := by
    rw [← HL.out]
    refine nodup_le _ _ H7.out.a.ndQ (fun x hx => ?_)
    have h1 := H7.out.a.sub x hx
    rw [eA2.out.1] at h1
    have h2 : x ∈ Sa.K := h1
    rw [eA.out.1] at h2
    exact runTo_sub rs ks ps (by rw [HL.out]; exact hpos) _ x h2
  have fs := same_any H7.out.a H7.out.b eK eQ (some ⟨bb, off, none⟩) n0 c3 rs ((Q0.out.below H7.out.bel).row) HL.out hQn k0 HSZ.out
  rw [eA2.out.2.2, eB3.out.2.2, eB2.out.2.2, eA.out.2.2, eB.out.2.2] at fs
  have F4 := hide fs
  clear fs eK eQ hQn
  go_wp2_with fail
  refine F4.out.mono ?_
  rintro e w13 ⟨rfl, hb13⟩
  have hfin : Hid (Below w2.heap.size w2 w13) := HB5.out.trans ((H7.out.bel.mono HB5.out.size).trans (hb13.mono (Nat.le_trans HB5.out.size H7.out.bel.size)))
  clear hb13
  go_wp2
  go_ret
  exact ⟨rfl, hfin.out⟩

end Go.Proofs.Qxb6000035a
