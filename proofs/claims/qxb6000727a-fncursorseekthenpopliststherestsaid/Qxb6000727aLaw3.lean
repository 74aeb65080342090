/-
  FnCursorSeekThenPopListsTheRest (3): the walk.
-/
import Derived.Test.Qxb6000727aLaw5
import Derived.Test.Qxb6000727aWrap
set_option linter.unusedSimpArgs false
set_option linter.unusedVariables false
namespace Go.Proofs.Qxb6000727a
open Go.RowKit

set_option maxHeartbeats 8000000 in
set_option maxRecDepth 100000 in
theorem law3 (a0 : Option Addr) (n0 c0 : Nat) (a1 : Option Addr) (n1 c1 : Nat) (sh : Int) (rv : Bool) (q : Int) (kn : Bool) (z0 z1 : List Int) (w : World)
    (r0 : RowV w a0 n0 (u8At z0)) (r1 : RowV w a1 n1 (u64At z1)) (nl0 : a0 = none → n0 = 0 ∧ c0 = 0) (nl1 : a1 = none → n1 = 0 ∧ c1 = 0)
    (ml0 : n0 ≤ maxLen) (ml1 : n1 ≤ maxLen) (b0 : ∀ i, 0 ≤ z0.getD i 0 ∧ z0.getD i 0 ≤ 255) (hs0 : 0 ≤ sh) (hs1 : sh ≤ 4294967295) (hq0 : 0 ≤ q) (hq1 : q ≤ 4294967295) :
    Calls Try.prog 3 #[.slice a0 n0 c0, .slice a1 n1 c1, .int .u32 sh, .bool rv, .int .u32 q, .bool kn] w (Yes w) := by
  have R0 := hide r0
  have R1 := hide r1
  have NL0 := hide nl0
  have NL1 := hide nl1
  have B0 := hide b0
  have HBY := hide (bytes7_any a0 n0 c0 a1 n1 c1 sh rv q kn w ml0 ml1)
  have m0 : (n0 : Int) ≤ 9223372036854775807 := by unfold maxLen at ml0; omega
  have m1 : (n1 : Int) ≤ 9223372036854775807 := by unfold maxLen at ml1; omega
  clear r0 r1 nl0 nl1 b0 ml0 ml1
  have hy : Hid (Yes w (.returned (.bool true)) w) := Yes.mk (Below.refl _ _)
  go_enter Try.func3, Try.ntmps3
  go_wp2_with fail
  refine HBY.out.mono ?_
  rintro e w1 ⟨b, rfl, rfl⟩
  cases b with
  | false =>
    go_wp2
    go_ret
    exact hy.out
  | true =>
  by_cases g0 : n0 ≤ 4096
  case neg =>
    go_wp2
    go_ret
    exact hy.out
  by_cases g1 : n1 ≤ 4096
  case neg =>
    go_wp2
    go_ret
    exact hy.out
  have K8 := hide (copyU8_any a0 n0 c0 z0 w1 R0.out NL0.out g0)
  go_wp2_with fail
  refine K8.out.mono ?_
  rintro e w2 ⟨x0, y0, rfl, r0, be2⟩
  have R0' := hide r0
  have BE2 := hide be2
  have K9 := hide (copyU64_any a1 n1 c1 z1 w2 (R1.out.below be2) NL1.out g1)
  clear r0 be2
  go_wp2_with fail
  refine K9.out.mono ?_
  rintro e w3 ⟨x1, y1, rfl, r1, be3⟩
  have BE3 := hide (BE2.out.trans (be3.mono BE2.out.size))
  have K10 := hide (pieces_any x0 n0 y0 x1 n1 y1 z0 z1 w3 (R0'.out.below be3) r1 g0 g1 B0.out)
  obtain ⟨hgd, hlen⟩ := allPs_good z0 z1 n0 n1 g0 B0.out
  generalize allPs z0 z1 n0 n1 = ps at K10 hgd hlen
  have HG := hide hgd
  clear r1 be3 hgd
  go_wp2_with fail
  refine K10.out.mono ?_
  rintro e w5 ⟨xp, yp, rfl, hps, be5⟩
  have HPS := hide hps
  have BE5 := hide (BE3.out.trans (be5.mono BE3.out.size))
  have K11 := hide (tree_any xp ps.length yp ps HG.out hlen sh hs0 hs1 ps.length 0 ps.length w5 (by omega) (Nat.le_refl _) (by omega) hps)
  clear hps be5
  go_wp2_with fail
  refine K11.out.mono ?_
  rintro e w0 ⟨D, rfl, ht, be6⟩
  have HPS0 := hide (HPS.out.below be6)
  have BE0 := hide (BE5.out.trans (be6.mono BE5.out.size))
  have HT : Hid (Tr w0 ps sh D) := ⟨HG.out, hlen, ht⟩
  clear ht be6
  obtain ⟨P, hP⟩ : ∃ P, ptrB (rootp sh D 0 ps.length) = .pointer P := ⟨_, rfl⟩
  rw [hP]
  have HP := hide hP
  clear hP K11 K10 K9 K8 HBY R0 R1 NL0 NL1 R0' BE2 BE3 BE5 HPS hy
  go_wp2_with fail
  refine (newCur_any w0 P rv).mono ?_
  rintro e wn ⟨rfl, hwn⟩
  have HN : Hid (CurIn w0 wn D w0.heap.size (newC (.pointer P) rv) []) := by
    rw [hwn]; exact newCur_in _ _ _ _
  generalize hcb : w0.heap.size = cb at HN ⊢
  have HCB := hide hcb
  clear hwn hcb
  cases kn <;> cases rv
  · have K13 := hide (last_any (c := yp) (HPS0.out.below HN.out.bel) HG.out 0 (by omega))
    go_wp2_with fail
    refine K13.out.mono ?_
    rintro e wk ⟨rfl, rfl⟩
    clear K13
    go_wp2_with fail
    refine (enc_any wk q hq0 hq1).mono ?_
    rintro e wx ⟨rfl, hwx⟩
    have HCUR : Hid (CurIn w0 wx D cb (newC (.pointer P) false) []) := by rw [hwx]; exact HN.out.alloc _
    have HKEY : Hid (KeyB wx (some ⟨wk.heap.size, 0, none⟩) (enc q).length (enc q)) := by rw [hwx]; exact KeyB.enc (Blk.made _ _ _) hq0 hq1
    have K13 := hide (last_any (c := yp) (HPS0.out.below HCUR.out.bel) HG.out q (by omega))
    generalize (enc q).length = ln at HKEY
    generalize wk.heap.size = kb at HKEY
    clear hwx HN
    go_wp2_with fail
    refine K13.out.mono ?_
    rintro e wy ⟨rfl, rfl⟩
    have HCUT := hide (cuts_enc HG.out hq0 hq1)
    have hkl := cut_le ps q
    generalize cut ps q = KK at HCUT hkl ⊢
    clear K13
    have HSK := hide (seek16F (kc := ln) HT.out HCUR.out rfl HP.out.symm HKEY.out HCUT.out)
    go_wp2_with fail
    refine HSK.out.mono ?_
    rintro e wa ⟨v1, M1, rfl, hC1, hF1, hS1⟩
    have HC1 := hide hC1
    have HF1 := hide hF1
    have HIS := hide (is_found (cc := yp) HT.out hC1.bel (HPS0.out.below hC1.bel) hkl)
    clear hC1 hF1 hS1 HSK HCUR HKEY
    obtain ⟨F, hF⟩ := found_ptr D KK
    rw [hF] at HIS ⊢
    clear hF
    go_wp2_with fail
    refine HIS.out.mono ?_
    rintro e wb ⟨rfl, hbb⟩
    have HC2 := hide (HC1.out.below hbb)
    clear hbb HC1 HIS
    go_wp2_with fail
    go_loopg [19] ps.length (fun k x wr => ∃ (j : Nat) (v : Value) (M : List Nat), ps.length - j ≤ k ∧ j ≤ ps.length ∧ x = .int .i64 j ∧ CurIn w0 wr D cb { newC (.pointer P) false with v := v } M ∧ Fwd w0 ps sh D ps.length M j)
    case atStart => exact ⟨KK, v1, M1, by omega, hkl, by go_num, HC2.out, HF1.out⟩
    case round =>
      obtain ⟨j, v, M, hk, hjN, rfl, hcur, hst⟩ := hrel
      have HCX := hide hcur
      have HFX := hide hst
      clear hcur hst HC2 HF1
      by_cases hlt : j < ps.length
      · have HPOP := hide (pop17F HT.out HCX.out HFX.out rfl hlt)
        go_wp2_with fail
        refine HPOP.out.mono ?_
        rintro e wc ⟨v3, M3, rfl, hC3, hF3, _⟩
        have HC3 := hide hC3
        have HF3 := hide hF3
        have HI := hide (is_some (c := yp) HT.out hC3.bel (HPS0.out.below hC3.bel) (i := j) hlt)
        clear hC3 hF3 HPOP
        unfold nodeP
        go_wp2_with fail
        refine HI.out.mono ?_
        rintro e wd ⟨rfl, hbd⟩
        have HC4 := hide (HC3.out.below hbd)
        clear hbd
        go_wp2
        go_roundg (ps.length - (j + 1))
        case measure => omega
        case rel => exact ⟨j + 1, v3, M3, by omega, by omega, by go_num, HC4.out, by have := HF3.out; simpa using this⟩
      · have hjn : j = ps.length := by omega
        have HE1 := hide (pop17F_end HCX.out HFX.out hjn)
        go_wp2_with fail
        refine HE1.out.mono ?_
        rintro e wc ⟨v3, M3, rfl, hC3, hF3, _⟩
        have HE2 := hide (pop17F_end hC3 (by simpa using hF3) hjn)
        clear hC3 hF3
        go_wp2_with fail
        refine HE2.out.mono ?_
        rintro e wd ⟨v4, M4, rfl, hC4, _, _⟩
        have hy : Hid (Yes w1 (.returned (.bool true)) wd) := Yes.mk (BE0.out.trans (hC4.bel.mono BE0.out.size))
        clear hC4
        go_wp2
        go_ret
        exact hy.out
  · have K13 := hide (last_any (c := yp) (HPS0.out.below HN.out.bel) HG.out 0 (by omega))
    go_wp2_with fail
    refine K13.out.mono ?_
    rintro e wk ⟨rfl, rfl⟩
    clear K13
    go_wp2_with fail
    refine (enc_any wk q hq0 hq1).mono ?_
    rintro e wx ⟨rfl, hwx⟩
    have HCUR : Hid (CurIn w0 wx D cb (newC (.pointer P) true) []) := by rw [hwx]; exact HN.out.alloc _
    have HKEY : Hid (KeyB wx (some ⟨wk.heap.size, 0, none⟩) (enc q).length (enc q)) := by rw [hwx]; exact KeyB.enc (Blk.made _ _ _) hq0 hq1
    have K13 := hide (last_any (c := yp) (HPS0.out.below HCUR.out.bel) HG.out q (by omega))
    generalize (enc q).length = ln at HKEY
    generalize wk.heap.size = kb at HKEY
    clear hwx HN
    go_wp2_with fail
    refine K13.out.mono ?_
    rintro e wy ⟨rfl, rfl⟩
    have HCUT := hide (cuts_enc HG.out hq0 hq1)
    have hkl := cut_le ps q
    generalize cut ps q = KK at HCUT hkl ⊢
    clear K13
    have HSK := hide (seek16R (kc := ln) HT.out HCUR.out rfl HP.out.symm HKEY.out HCUT.out)
    go_wp2_with fail
    refine HSK.out.mono ?_
    rintro e wa ⟨v1, M1, rfl, hC1, hF1, hS1⟩
    have HC1 := hide hC1
    have HF1 := hide hF1
    have HIS := hide (is_found (cc := yp) HT.out hC1.bel (HPS0.out.below hC1.bel) hkl)
    clear hC1 hF1 hS1 HSK HCUR HKEY
    obtain ⟨F, hF⟩ := found_ptr D KK
    rw [hF] at HIS ⊢
    clear hF
    go_wp2_with fail
    refine HIS.out.mono ?_
    rintro e wb ⟨rfl, hbb⟩
    have HC2 := hide (HC1.out.below hbb)
    clear hbb HC1 HIS
    go_wp2_with fail
    go_loopg [18] KK (fun k x wr => ∃ (j : Nat) (X : Int) (v : Value) (M : List Nat), j ≤ k ∧ j ≤ ps.length ∧ x = .int .i64 X ∧ (X = (j : Int) - 1 ∨ (j = 0 ∧ X = -2)) ∧ CurIn w0 wr D cb { newC (.pointer P) true with v := v } M ∧ Rev w0 ps sh D 0 M j)
    case atStart => exact ⟨KK - 1, (KK : Int) - 1 - 1, v1, M1, by omega, by omega, by go_num, by omega, HC2.out, HF1.out⟩
    case round =>
      obtain ⟨j, X, v, M, hk, hjN, rfl, hX, hcur, hst⟩ := hrel
      have HCX := hide hcur
      have HFX := hide hst
      clear hcur hst HC2 HF1
      rcases j with _ | j
      · have hX0 : X < 0 := by omega
        have hX1 : -2 ≤ X := by omega
        clear hX
        have HE1 := hide (pop17R_end HCX.out HFX.out)
        go_wp2_with fail
        refine HE1.out.mono ?_
        rintro e wc ⟨v3, M3, rfl, hC3, hF3, _⟩
        have HE2 := hide (pop17R_end hC3 (by simpa using hF3))
        clear hC3 hF3
        go_wp2_with fail
        refine HE2.out.mono ?_
        rintro e wd ⟨v4, M4, rfl, hC4, _, _⟩
        have hy : Hid (Yes w1 (.returned (.bool true)) wd) := Yes.mk (BE0.out.trans (hC4.bel.mono BE0.out.size))
        clear hC4
        go_wp2
        go_ret
        exact hy.out
      · have hXj : X = (j : Int) := by omega
        subst hXj
        clear hX
        have HPOP := hide (pop17R HT.out HCX.out HFX.out rfl (by omega))
        go_wp2_with fail
        refine HPOP.out.mono ?_
        rintro e wc ⟨v3, M3, rfl, hC3, hF3, _⟩
        have HC3 := hide hC3
        have HF3 := hide hF3
        have HI := hide (is_some (c := yp) HT.out hC3.bel (HPS0.out.below hC3.bel) (i := j) (by omega))
        clear hC3 hF3 HPOP
        unfold nodeP
        go_wp2_with fail
        refine HI.out.mono ?_
        rintro e wd ⟨rfl, hbd⟩
        have HC4 := hide (HC3.out.below hbd)
        clear hbd
        go_wp2
        go_roundg j
        case measure => omega
        case rel => exact ⟨j, (j : Int) - 1, v3, M3, by omega, by omega, by go_num, Or.inl rfl, HC4.out, by have := HF3.out; simpa using this⟩
  · have K13 := hide (last_any (c := yp) (HPS0.out.below HN.out.bel) HG.out 0 (by omega))
    go_wp2_with fail
    refine K13.out.mono ?_
    rintro e wk ⟨rfl, rfl⟩
    clear K13
    have HKEY : Hid (KeyB wk none 0 (enc 0)) := keyB_zero wk
    have HCUR := hide HN.out
    have HCUT := hide (cuts_enc HG.out (q := 0) (by omega) (by omega))
    have hkl := cut_le ps 0
    generalize cut ps 0 = KK at HCUT hkl ⊢
    clear HN
    have HSK := hide (seek16F (kc := 0) HT.out HCUR.out rfl HP.out.symm HKEY.out HCUT.out)
    go_wp2_with fail
    refine HSK.out.mono ?_
    rintro e wa ⟨v1, M1, rfl, hC1, hF1, hS1⟩
    have HC1 := hide hC1
    have HF1 := hide hF1
    have HIS := hide (is_found (cc := yp) HT.out hC1.bel (HPS0.out.below hC1.bel) hkl)
    clear hC1 hF1 hS1 HSK HCUR HKEY
    obtain ⟨F, hF⟩ := found_ptr D KK
    rw [hF] at HIS ⊢
    clear hF
    go_wp2_with fail
    refine HIS.out.mono ?_
    rintro e wb ⟨rfl, hbb⟩
    have HC2 := hide (HC1.out.below hbb)
    clear hbb HC1 HIS
    go_wp2_with fail
    go_loopg [19] ps.length (fun k x wr => ∃ (j : Nat) (v : Value) (M : List Nat), ps.length - j ≤ k ∧ j ≤ ps.length ∧ x = .int .i64 j ∧ CurIn w0 wr D cb { newC (.pointer P) false with v := v } M ∧ Fwd w0 ps sh D ps.length M j)
    case atStart => exact ⟨KK, v1, M1, by omega, hkl, by go_num, HC2.out, HF1.out⟩
    case round =>
      obtain ⟨j, v, M, hk, hjN, rfl, hcur, hst⟩ := hrel
      have HCX := hide hcur
      have HFX := hide hst
      clear hcur hst HC2 HF1
      by_cases hlt : j < ps.length
      · have HPOP := hide (pop17F HT.out HCX.out HFX.out rfl hlt)
        go_wp2_with fail
        refine HPOP.out.mono ?_
        rintro e wc ⟨v3, M3, rfl, hC3, hF3, _⟩
        have HC3 := hide hC3
        have HF3 := hide hF3
        have HI := hide (is_some (c := yp) HT.out hC3.bel (HPS0.out.below hC3.bel) (i := j) hlt)
        clear hC3 hF3 HPOP
        unfold nodeP
        go_wp2_with fail
        refine HI.out.mono ?_
        rintro e wd ⟨rfl, hbd⟩
        have HC4 := hide (HC3.out.below hbd)
        clear hbd
        go_wp2
        go_roundg (ps.length - (j + 1))
        case measure => omega
        case rel => exact ⟨j + 1, v3, M3, by omega, by omega, by go_num, HC4.out, by have := HF3.out; simpa using this⟩
      · have hjn : j = ps.length := by omega
        have HE1 := hide (pop17F_end HCX.out HFX.out hjn)
        go_wp2_with fail
        refine HE1.out.mono ?_
        rintro e wc ⟨v3, M3, rfl, hC3, hF3, _⟩
        have HE2 := hide (pop17F_end hC3 (by simpa using hF3) hjn)
        clear hC3 hF3
        go_wp2_with fail
        refine HE2.out.mono ?_
        rintro e wd ⟨v4, M4, rfl, hC4, _, _⟩
        have hy : Hid (Yes w1 (.returned (.bool true)) wd) := Yes.mk (BE0.out.trans (hC4.bel.mono BE0.out.size))
        clear hC4
        go_wp2
        go_ret
        exact hy.out
  · have K13 := hide (last_any (c := yp) (HPS0.out.below HN.out.bel) HG.out 0 (by omega))
    go_wp2_with fail
    refine K13.out.mono ?_
    rintro e wk ⟨rfl, rfl⟩
    clear K13
    have HKEY : Hid (KeyB wk none 0 (enc 0)) := keyB_zero wk
    have HCUR := hide HN.out
    have HCUT := hide (cuts_enc HG.out (q := 0) (by omega) (by omega))
    have hkl := cut_le ps 0
    generalize cut ps 0 = KK at HCUT hkl ⊢
    clear HN
    have HSK := hide (seek16R (kc := 0) HT.out HCUR.out rfl HP.out.symm HKEY.out HCUT.out)
    go_wp2_with fail
    refine HSK.out.mono ?_
    rintro e wa ⟨v1, M1, rfl, hC1, hF1, hS1⟩
    have HC1 := hide hC1
    have HF1 := hide hF1
    have HIS := hide (is_found (cc := yp) HT.out hC1.bel (HPS0.out.below hC1.bel) hkl)
    clear hC1 hF1 hS1 HSK HCUR HKEY
    obtain ⟨F, hF⟩ := found_ptr D KK
    rw [hF] at HIS ⊢
    clear hF
    go_wp2_with fail
    refine HIS.out.mono ?_
    rintro e wb ⟨rfl, hbb⟩
    have HC2 := hide (HC1.out.below hbb)
    clear hbb HC1 HIS
    go_wp2_with fail
    go_loopg [18] KK (fun k x wr => ∃ (j : Nat) (X : Int) (v : Value) (M : List Nat), j ≤ k ∧ j ≤ ps.length ∧ x = .int .i64 X ∧ (X = (j : Int) - 1 ∨ (j = 0 ∧ X = -2)) ∧ CurIn w0 wr D cb { newC (.pointer P) true with v := v } M ∧ Rev w0 ps sh D 0 M j)
    case atStart => exact ⟨KK - 1, (KK : Int) - 1 - 1, v1, M1, by omega, by omega, by go_num, by omega, HC2.out, HF1.out⟩
    case round =>
      obtain ⟨j, X, v, M, hk, hjN, rfl, hX, hcur, hst⟩ := hrel
      have HCX := hide hcur
      have HFX := hide hst
      clear hcur hst HC2 HF1
      rcases j with _ | j
      · have hX0 : X < 0 := by omega
        have hX1 : -2 ≤ X := by omega
        clear hX
        have HE1 := hide (pop17R_end HCX.out HFX.out)
        go_wp2_with fail
        refine HE1.out.mono ?_
        rintro e wc ⟨v3, M3, rfl, hC3, hF3, _⟩
        have HE2 := hide (pop17R_end hC3 (by simpa using hF3))
        clear hC3 hF3
        go_wp2_with fail
        refine HE2.out.mono ?_
        rintro e wd ⟨v4, M4, rfl, hC4, _, _⟩
        have hy : Hid (Yes w1 (.returned (.bool true)) wd) := Yes.mk (BE0.out.trans (hC4.bel.mono BE0.out.size))
        clear hC4
        go_wp2
        go_ret
        exact hy.out
      · have hXj : X = (j : Int) := by omega
        subst hXj
        clear hX
        have HPOP := hide (pop17R HT.out HCX.out HFX.out rfl (by omega))
        go_wp2_with fail
        refine HPOP.out.mono ?_
        rintro e wc ⟨v3, M3, rfl, hC3, hF3, _⟩
        have HC3 := hide hC3
        have HF3 := hide hF3
        have HI := hide (is_some (c := yp) HT.out hC3.bel (HPS0.out.below hC3.bel) (i := j) (by omega))
        clear hC3 hF3 HPOP
        unfold nodeP
        go_wp2_with fail
        refine HI.out.mono ?_
        rintro e wd ⟨rfl, hbd⟩
        have HC4 := hide (HC3.out.below hbd)
        clear hbd
        go_wp2
        go_roundg j
        case measure => omega
        case rel => exact ⟨j, (j : Int) - 1, v3, M3, by omega, by omega, by go_num, Or.inl rfl, HC4.out, by have := HF3.out; simpa using this⟩

end Go.Proofs.Qxb6000727a
