/-
  FnCursorForwardAndReverseWalksMirror (4): the walk.
-/
import Derived.Test.Qxb6000727aLaw5
import Derived.Test.Qxb6000727aTwo
import Derived.Deep.DeepCutAuto
import Derived.Lib.Builder
set_option linter.unusedSimpArgs false
set_option linter.unusedVariables false
namespace Go.Proofs.Qxb6000727a
open Go.RowKit

theorem wrap_ok {x : Int} (h0 : -9223372036854775808 ≤ x) (h1 : x ≤ 9223372036854775807) : IntKind.i64.wrap x = x := by
  simp [IntKind.wrap, IntKind.signed, IntKind.bits]
  try split
  all_goals omega

theorem neq_same (a : Addr) (w : World) : (binOp .neq 30 (.pointer (some a)) (.pointer (some a))).run Try.prog w = .ok (.bool false) w := by
  obtain ⟨j, hj⟩ : ∃ j, Try.prog.info? 63 = some j := Option.isSome_iff_exists.1 (by kernel_rfl)
  exact Lib.run_neq_ptr_same (w := w) a Try.underlying30 hj

set_option maxHeartbeats 8000000 in
set_option maxRecDepth 100000 in
theorem law4 (a0 : Option Addr) (n0 c0 : Nat) (a1 : Option Addr) (n1 c1 : Nat) (sh : Int) (z0 z1 : List Int) (w : World)
    (r0 : RowV w a0 n0 (u8At z0)) (r1 : RowV w a1 n1 (u64At z1)) (nl0 : a0 = none → n0 = 0 ∧ c0 = 0) (nl1 : a1 = none → n1 = 0 ∧ c1 = 0)
    (ml0 : n0 ≤ maxLen) (ml1 : n1 ≤ maxLen) (b0 : ∀ i, 0 ≤ z0.getD i 0 ∧ z0.getD i 0 ≤ 255) (hs0 : 0 ≤ sh) (hs1 : sh ≤ 4294967295) :
    Calls Try.prog 4 #[.slice a0 n0 c0, .slice a1 n1 c1, .int .u32 sh] w (Yes w) := by
  obtain ⟨i0, hi, hz0, hz1, hz2⟩ := info_parts Try.info30
  have R0 := hide r0
  have R1 := hide r1
  have NL0 := hide nl0
  have NL1 := hide nl1
  have B0 := hide b0
  have HBY := hide (bytes18_any a0 n0 c0 a1 n1 c1 sh w ml0 ml1)
  have m0 : (n0 : Int) ≤ 9223372036854775807 := by unfold maxLen at ml0; omega
  have m1 : (n1 : Int) ≤ 9223372036854775807 := by unfold maxLen at ml1; omega
  clear r0 r1 nl0 nl1 b0 ml0 ml1
  have hy : Hid (Yes w (.returned (.bool true)) w) := Yes.mk (Below.refl _ _)
  go_enter Try.func4, Try.ntmps4
  go_wp2_with fail
  refine HBY.out.mono ?_
  rintro e w1 ⟨b, rfl, rfl⟩
  cases b with
  | false =>
    go_wp2
    go_ret
    exact hy.out
  | true =>
  by_cases g0 : n0 ≤ 4096
  case neg =>
    go_wp2
    go_ret
    exact hy.out
  by_cases g1 : n1 ≤ 4096
  case neg =>
    go_wp2
    go_ret
    exact hy.out
  have K8 := hide (copyU8_any a0 n0 c0 z0 w1 R0.out NL0.out g0)
  go_wp2_with fail
  refine K8.out.mono ?_
  rintro e w2 ⟨x0, y0, rfl, r0, be2⟩
  have R0' := hide r0
  have BE2 := hide be2
  have K9 := hide (copyU64_any a1 n1 c1 z1 w2 (R1.out.below be2) NL1.out g1)
  clear r0 be2
  go_wp2_with fail
  refine K9.out.mono ?_
  rintro e w3 ⟨x1, y1, rfl, r1, be3⟩
  have BE3 := hide (BE2.out.trans (be3.mono BE2.out.size))
  have K10 := hide (pieces_any x0 n0 y0 x1 n1 y1 z0 z1 w3 (R0'.out.below be3) r1 g0 g1 B0.out)
  obtain ⟨hgd, hlen⟩ := allPs_good z0 z1 n0 n1 g0 B0.out
  generalize allPs z0 z1 n0 n1 = ps at K10 hgd hlen
  have HG := hide hgd
  clear r1 be3 hgd
  go_wp2_with fail
  refine K10.out.mono ?_
  rintro e w5 ⟨xp, yp, rfl, hps, be5⟩
  have HPS := hide hps
  have BE5 := hide (BE3.out.trans (be5.mono BE3.out.size))
  have K11 := hide (tree_any xp ps.length yp ps HG.out hlen sh hs0 hs1 ps.length 0 ps.length w5 (by omega) (Nat.le_refl _) (by omega) hps)
  clear hps be5
  go_wp2_with fail
  refine K11.out.mono ?_
  rintro e w0 ⟨D, rfl, ht, be6⟩
  have HPS0 := hide (HPS.out.below be6)
  have BE0 := hide (BE5.out.trans (be6.mono BE5.out.size))
  have HT : Hid (Tr w0 ps sh D) := ⟨HG.out, hlen, ht⟩
  clear ht be6
  obtain ⟨P, hP⟩ : ∃ P, ptrB (rootp sh D 0 ps.length) = .pointer P := ⟨_, rfl⟩
  rw [hP]
  have HP := hide hP
  obtain ⟨N, hN⟩ : ∃ N, ps.length = N := ⟨_, rfl⟩
  have HNE := hide hN
  rw [hN] at hlen
  clear hP K11 K10 K9 K8 HBY R0 R1 NL0 NL1 R0' BE2 BE3 BE5 HPS hy
  have HCUT := hide (cuts_enc HG.out (q := 0) (by omega) (by omega))
  have hkl := cut_le ps 0
  have hk1 := cut_zero HG.out
  have HL13 : Hid (∀ wa, Below w0.heap.size w0 wa → Calls Try.prog 13 #[.slice xp ps.length yp, .int .u32 0] wa fun e w' => e = .returned (.int .i64 ((cut ps 0 : Int) - 1)) ∧ w' = wa) := fun wa h => last_any (c := yp) (HPS0.out.below h) HG.out 0 (by omega)
  generalize cut ps 0 = KK at HCUT hkl hk1 HL13
  have HIS : Hid (∀ wa, Below w0.heap.size w0 wa → Calls Try.prog 15 #[found D KK, .slice xp ps.length yp, .int .i64 ((KK : Int) - 1)] wa fun e w' => e = .returned (.bool true) ∧ Below wa.heap.size wa w') := fun wa h => is_found (cc := yp) HT.out h (HPS0.out.below h) hkl
  rw [hN] at hkl HL13 HIS ⊢
  have hmk := run_make40 N (by omega)
  go_wp2_with fail
  refine (newCur_any w0 P false).mono ?_
  rintro e wn ⟨rfl, hwn⟩
  have HN : Hid (CurIn w0 wn D w0.heap.size (newC (.pointer P) false) []) := by
    rw [hwn]; exact newCur_in _ _ _ _
  generalize hcb : w0.heap.size = cb at HN ⊢
  have HCB := hide hcb
  have HPR := hide (Pair.made HN.out (N + 2) (by omega))
  have HSK := hide (seek16F (kc := 0) HT.out HPR.out.cur rfl HP.out.symm (keyB_zero _) HCUT.out)
  clear hwn hcb HN
  go_wp2_with fail
  refine HSK.out.mono ?_
  rintro e wa ⟨v1, M1, rfl, hC1, hF1, hS1⟩
  have HPA := hide (HPR.out.step hC1 hS1)
  have HFA := hide hF1
  have C13 := hide (HL13.out _ hC1.bel)
  have C15 := hide (HIS.out _ hC1.bel)
  generalize wn.heap.size = ga at HPA ⊢
  clear hC1 hF1 hS1 HSK HPR HL13 HIS
  obtain ⟨F, hF⟩ := found_ptr D KK
  rw [hF] at C15 ⊢
  have HFE := hide hF
  clear hF
  go_wp2_with fail
  refine C13.out.mono ?_
  rintro e wy ⟨rfl, rfl⟩
  go_wp2_with fail
  refine C15.out.mono ?_
  rintro e wb ⟨rfl, hbb⟩
  have HPB := hide (HPA.out.below hbb)
  clear hbb HPA C13 C15
  go_upto_if 61 with fail
  go_cut [11] (fun x wt => Pair w0 wt D cb { newC (.pointer P) false with v := v1 } M1 x (List.range KK))
  case first =>
    rcases Nat.lt_or_ge KK 1 with hk0 | hk0
    · have e0 : KK = 0 := by omega
      subst e0
      have eF : F = none := by have h := HFE.out; rw [found_zero] at h; simpa using h.symm
      subst eF
      go_wp2
      go_meet
      case rel => exact HPB.out
    · have e1 : KK = 1 := by omega
      subst e1
      have eF : F = some ⟨D.blk 0, 0, none⟩ := by have h := HFE.out; rw [found_succ] at h; simpa using h.symm
      subst eF
      have hrx : wb.ownsRow w0.heap.size 30 1 (.slice (some ⟨ga, 0, none⟩) 0 (N + 2)) 0 (ptrs D []) := HPB.out.row
      have hsz := HPB.out.cur.bel.size
      go_wp2_with (at_builtin; go_must (refine wpList_append_own_at _ rfl _ _ 40 rfl w0.heap.size 30 i0 (.pointer none) 1 8 Try.underlying40 hi hz0 hz1 hz2 rfl (by decide) _ _ _ rfl (hrx.alloc _) ⟨wb.heap.size, 0, none⟩ 1 1 [.pointer (some ⟨D.blk 0, 0, none⟩)] rfl rfl (cell_one_new _ _ _) (by intro u hu; simp at hu; subst hu; rfl) (by unfold maxLen; omega) (by omega) (by simp; omega) ?_); go_must (intro v' w1' hown1 hgrow hnil hloc; obtain ⟨⟨g1, cap1, rfl⟩, hp1⟩ := HPB.out.push (L := []) (q := 0) rfl hown1 hgrow hloc; have HP1 := hide hp1; clear hown1 hgrow hnil hloc hp1))
      go_meet
      case rel => exact HP1.out
  case rest =>
    have HX := hide hcut
    clear hcut HPB HFE
    go_wp2_with fail
    go_loopg [11, 13] (N - KK) (fun k x y wr => ∃ (j : Nat) (v : Value) (M : List Nat), N - j ≤ k ∧ KK ≤ j ∧ j ≤ N ∧ y = .int .i64 ((j : Int) - (KK : Int)) ∧ Pair w0 wr D cb { newC (.pointer P) false with v := v } M x (List.range j) ∧ Fwd w0 ps sh D ps.length M j)
    case atStart => exact ⟨KK, v1, M1, by omega, by omega, hkl, by simp, HX.out, HFA.out⟩
    case round =>
      obtain ⟨j, v, M, hk, hKj, hjN, rfl, hpr, hst⟩ := hrel
      have HPX := hide hpr
      have HFX := hide hst
      clear hpr hst HX HFA
      obtain ⟨a, cap, rfl, hrx0⟩ := HPX.out.shape (List.length_range (n := j))
      by_cases hlt : j < N
      · have HPOP := hide (pop17F HT.out HPX.out.cur HFX.out rfl (by rw [HNE.out]; exact hlt))
        clear hrx0
        go_wp2_with fail
        refine HPOP.out.mono ?_
        rintro e wc ⟨v3, M3, rfl, hC3, hF3, hS3⟩
        have HPC := hide (HPX.out.step hC3 hS3)
        have HF3 := hide hF3
        obtain ⟨a', cap', ea, hrx⟩ := HPC.out.shape (List.length_range (n := j))
        cases ea
        have hsz := HPC.out.cur.bel.size
        clear hC3 hF3 hS3 HPOP
        unfold nodeP
        go_wp2_with (at_builtin; go_must (refine wpList_append_own_at _ rfl _ _ 40 rfl w0.heap.size 30 i0 (.pointer none) 1 8 Try.underlying40 hi hz0 hz1 hz2 rfl (by decide) _ _ _ rfl (hrx.alloc _) ⟨wc.heap.size, 0, none⟩ 1 1 [.pointer (some ⟨D.blk j, 0, none⟩)] rfl rfl (cell_one_new _ _ _) (by intro u hu; simp at hu; subst hu; rfl) (by unfold maxLen; omega) (by omega) (by simp; omega) ?_); go_must (intro v' w1' hown1 hgrow hnil hloc; obtain ⟨⟨g1, cap1, rfl⟩, hp1⟩ := HPC.out.push (q := j) List.length_range hown1 hgrow hloc; have HP1 := hide hp1; clear hown1 hgrow hnil hloc hp1))
        go_roundg (N - (j + 1))
        case measure => omega
        case rel => exact ⟨j + 1, v3, M3, by omega, by omega, by omega, by go_num, by rw [← range_snoc]; exact HP1.out, by have := HF3.out; simpa using this⟩
      · have hjn : j = N := by omega
        subst hjn
        have HE1 := hide (pop17F_end HPX.out.cur HFX.out HNE.out.symm)
        clear hrx0
        go_wp2_with fail
        refine HE1.out.mono ?_
        rintro e wm ⟨v3, M3, rfl, hC3, hF3, hS3⟩
        have HPC := hide (HPX.out.step hC3 hS3)
        have RA := hide (HPC.out.list List.length_range (f := fun i => i) (fun i hi => range_at hi))
        have HTM := hide (HT.out.below HPC.out.cur.bel)
        have BEM := hide (BE0.out.trans (HPC.out.cur.bel.mono BE0.out.size))
        clear hC3 hF3 hS3 HE1 HPC HPX HFX HT BE0 HCUT HCB HPS0
        go_wp2_with fail
        refine (newCur_any wm P true).mono ?_
        rintro e wn2 ⟨rfl, hwn2⟩
        have HN2 : Hid (CurIn wm wn2 D wm.heap.size (newC (.pointer P) true) []) := by
          rw [hwn2]; exact newCur_in _ _ _ _
        generalize hcb2 : wm.heap.size = cb2 at HN2 ⊢
        have HPR := hide ((Pair.made HN2.out (j + 2) (by omega)).alloc (.cells #[.int .u8 255, .int .u8 255, .int .u8 255, .int .u8 255, .int .u8 255] 5))
        have HSK := hide (seek16R (kc := 5) HTM.out HPR.out.cur rfl HP.out.symm (keyB_ff (Blk.made _ _ _)) (cuts_ff HG.out))
        rw [HNE.out, World.size_alloc] at HSK
        clear hwn2 hcb2 HN2
        go_wp2_with fail
        refine HSK.out.mono ?_
        rintro e wa2 ⟨v4, M4, rfl, hC4, hF4, hS4⟩
        have HPA := hide (HPR.out.step hC4 hS4)
        have HFA := hide hF4
        generalize wn2.heap.size = gb at HPA ⊢
        clear hC4 hF4 hS4 HSK HPR hmk
        obtain ⟨F2, hF2⟩ := found_ptr D j
        rw [hF2]
        have HFE := hide hF2
        clear hF2
        go_upto_if 92 with fail
        go_cut [16] (fun x wt => ∃ k, k ≤ j ∧ j - k = j - 1 ∧ Pair wm wt D cb2 { newC (.pointer P) true with v := v4 } M4 x (down j k))
        case first =>
          rcases Nat.lt_or_ge j 1 with hk0 | hk0
          · have eF : F2 = none := by have h := HFE.out; rw [show j = 0 by omega, found_zero] at h; simpa using h.symm
            subst eF
            go_wp2
            go_meet
            case rel => exact ⟨0, by omega, by omega, HPA.out⟩
          · have eF : F2 = some ⟨D.blk (j - 1), 0, none⟩ := by
              have h := HFE.out
              rw [show j = (j - 1) + 1 by omega, found_succ] at h
              simpa using h.symm
            subst eF
            have hrx : wa2.ownsRow wm.heap.size 30 1 (.slice (some ⟨gb, 0, none⟩) 0 (j + 2)) 0 (ptrs D []) := HPA.out.row
            have hsz := HPA.out.cur.bel.size
            go_wp2_with (at_builtin; go_must (refine wpList_append_own_at _ rfl _ _ 40 rfl wm.heap.size 30 i0 (.pointer none) 1 8 Try.underlying40 hi hz0 hz1 hz2 rfl (by decide) _ _ _ rfl (hrx.alloc _) ⟨wa2.heap.size, 0, none⟩ 1 1 [.pointer (some ⟨D.blk (j - 1), 0, none⟩)] rfl rfl (cell_one_new _ _ _) (by intro u hu; simp at hu; subst hu; rfl) (by unfold maxLen; omega) (by omega) (by simp; omega) ?_); go_must (intro v' w1' hown1 hgrow hnil hloc; obtain ⟨⟨g1, cap1, rfl⟩, hp1⟩ := HPA.out.push (L := []) (q := j - 1) rfl hown1 hgrow hloc; have HP1 := hide hp1; clear hown1 hgrow hnil hloc hp1))
            go_meet
            case rel => exact ⟨1, by omega, by omega, HP1.out⟩
        case rest =>
          obtain ⟨KB, hKB, hKB2, hcut2⟩ := hcut
          have HX := hide hcut2
          have HKB2 := hide hKB2
          clear hcut2 HPA HFE hKB2
          go_wp2_with fail
          go_loopg [16, 18] (j - KB) (fun k x y wr => ∃ (l : Nat) (v : Value) (M : List Nat), j - l ≤ k ∧ KB ≤ l ∧ l ≤ j ∧ y = .int .i64 ((l : Int) - (KB : Int)) ∧ Pair wm wr D cb2 { newC (.pointer P) true with v := v } M x (down j l) ∧ Rev wm ps sh D 0 M (j - l))
          case atStart => exact ⟨KB, v4, M4, by omega, by omega, hKB, by simp, HX.out, by rw [HKB2.out]; exact HFA.out⟩
          case round =>
            obtain ⟨l, v, M, hk, hKl, hlN, rfl, hpr, hst⟩ := hrel
            have HPX := hide hpr
            have HFX := hide hst
            clear hpr hst HX HFA HKB2
            obtain ⟨b, capb, rfl, hrx0⟩ := HPX.out.shape (down_len j l)
            clear hrx0
            by_cases hlt : l < j
            · obtain ⟨q, hq⟩ : ∃ q, j - l = q + 1 := ⟨j - l - 1, by omega⟩
              have hq1 : q = j - 1 - l := by omega
              have HQ1 := hide hq1
              rw [hq] at HFX
              have HPOP := hide (pop17R HTM.out HPX.out.cur HFX.out rfl (by rw [HNE.out]; omega))
              clear hq1
              go_wp2_with fail
              refine HPOP.out.mono ?_
              rintro e wd ⟨v5, M5, rfl, hC5, hF5, hS5⟩
              have HPC := hide (HPX.out.step hC5 hS5)
              have HF5 := hide hF5
              obtain ⟨b', capb', eb, hrx⟩ := HPC.out.shape (down_len j l)
              cases eb
              have hsz := HPC.out.cur.bel.size
              clear hC5 hF5 hS5 HPOP
              unfold nodeP
              go_wp2_with (at_builtin; go_must (refine wpList_append_own_at _ rfl _ _ 40 rfl wm.heap.size 30 i0 (.pointer none) 1 8 Try.underlying40 hi hz0 hz1 hz2 rfl (by decide) _ _ _ rfl (hrx.alloc _) ⟨wd.heap.size, 0, none⟩ 1 1 [.pointer (some ⟨D.blk q, 0, none⟩)] rfl rfl (cell_one_new _ _ _) (by intro u hu; simp at hu; subst hu; rfl) (by unfold maxLen; omega) (by omega) (by simp; omega) ?_); go_must (intro v' w1' hown1 hgrow hnil hloc; obtain ⟨⟨g1, cap1, rfl⟩, hp1⟩ := HPC.out.push (q := q) (down_len j l) hown1 hgrow hloc; have HP1 := hide hp1; clear hown1 hgrow hnil hloc hp1))
              go_roundg (j - (l + 1))
              case measure => omega
              case rel => exact ⟨l + 1, v5, M5, by omega, by omega, by omega, by go_num, by rw [← down_snoc, ← HQ1.out]; exact HP1.out, by have h := HF5.out; rw [show j - (l + 1) = q by omega]; simpa using h⟩
            · have hlj : l = j := by omega
              subst hlj
              have HE1 := hide (pop17R_end HPX.out.cur (by have h := HFX.out; rw [Nat.sub_self] at h; exact h))
              go_wp2_with fail
              refine HE1.out.mono ?_
              rintro e wd ⟨v5, M5, rfl, hC5, hF5, hS5⟩
              have HPC := hide (HPX.out.step hC5 hS5)
              have RB := hide (HPC.out.list (down_len l l) (f := fun i => l - 1 - i) (fun i hi => down_at hi))
              have RA2 := hide (RA.out.below HPC.out.cur.bel)
              have HTD := hide (HTM.out.below HPC.out.cur.bel)
              have hy : Hid (∀ wz, Same wd wz → Yes w1 (.returned (.bool true)) wz) := fun wz hs => Yes.mk (Below.same' (BEM.out.trans (HPC.out.cur.bel.mono BEM.out.size)) hs)
              clear hC5 hF5 hS5 HE1 HPC HPX HFX HTM BEM RA
              go_wp2_with fail
              go_loopg [20] l (fun k x wr => ∃ i : Nat, i ≤ l ∧ l - i ≤ k ∧ x = .int .i64 i ∧ Same wd wr)
              case atStart => exact ⟨0, by omega, by omega, rfl, Same.refl _⟩
              case round =>
                obtain ⟨i, hil, hki, rfl, hs⟩ := hrel
                have HS := hide hs
                clear hs
                by_cases hin : i < l
                · obtain ⟨ba, oa, rfl, hca⟩ := RA2.out (by omega)
                  obtain ⟨bb, ob, rfl, hcb⟩ := RB.out (by omega)
                  obtain ⟨m, hm⟩ : ∃ m : Nat, (l : Int) - 1 - (i : Int) = (m : Int) := ⟨l - 1 - i, by omega⟩
                  have hml : m < l := by omega
                  have k1 : wr.cell? ⟨ba, oa + i, none⟩ = some (.pointer (some ⟨D.blk i, 0, none⟩)) := (HS.out.cell _).trans (hca i hin)
                  have k2 : wr.cell? ⟨bb, ob + m, none⟩ = some (.pointer (some ⟨D.blk i, 0, none⟩)) := by
                    have h : wr.cell? ⟨bb, ob + m, none⟩ = some (.pointer (some ⟨D.blk (l - 1 - m), 0, none⟩)) := (HS.out.cell _).trans (hcb m hml)
                    rw [show l - 1 - m = i by omega] at h
                    exact h
                  generalize D.blk i = Bi at k1 k2
                  have hb0 : (0 : Int) ≤ (i : Int) := by omega
                  have hb1 : (i : Int) < (l : Int) := by omega
                  have hb2 : (0 : Int) ≤ (m : Int) := by omega
                  have hb3 : (m : Int) < (l : Int) := by omega
                  have hw1 : IntKind.i64.wrap ((l : Int) - 1) = (l : Int) - 1 := wrap_ok (by omega) (by omega)
                  have hw2 : IntKind.i64.wrap (m : Int) = (m : Int) := wrap_ok (by omega) (by omega)
                  have hS1 : Same wd wr.drew := HS.out.drew
                  have k1' : wr.drew.cell? ⟨ba, oa + i, none⟩ = some (.pointer (some ⟨Bi, 0, none⟩)) := k1
                  have k2' : wr.drew.cell? ⟨bb, ob + m, none⟩ = some (.pointer (some ⟨Bi, 0, none⟩)) := k2
                  have hne : ∀ w : World, (binOp .neq 30 (.pointer (some ⟨Bi, 0, none⟩)) (.pointer (some ⟨Bi, 0, none⟩))).run Try.prog w = .ok (.bool false) w := neq_same _
                  clear hca hcb
                  go_wp2_with fail
                  go_region_held3 (fun w' => Same wd w' ∧ w'.cell? ⟨ba, oa + i, none⟩ = some (.pointer (some ⟨Bi, 0, none⟩)) ∧ w'.cell? ⟨bb, ob + m, none⟩ = some (.pointer (some ⟨Bi, 0, none⟩))) (first | assumption | exact ⟨by assumption, by assumption, by assumption⟩ | simp [*])
                    (fail)
                  go_wp2
                  go_roundg (l - (i + 1))
                  case measure => omega
                  case rel => exact ⟨i + 1, by omega, by omega, by go_num, by assumption⟩
                · have hie : i = l := by omega
                  go_wp2_with fail
                  go_loopg [21] l (fun k x wz => ∃ i : Nat, 1 ≤ i ∧ l - i ≤ k ∧ x = .int .i64 i ∧ i ≤ l + 1 ∧ Same wd wz)
                  case atStart => exact ⟨1, by omega, by omega, rfl, by omega, HS.out⟩
                  case round =>
                    obtain ⟨i', hi1', hkp, rfl, hpl, hs⟩ := hrel
                    have HSZ := hide hs
                    clear hs HS hie hin
                    by_cases hpn : i' < l
                    · obtain ⟨ba, oa, rfl, hca⟩ := RA2.out (by omega)
                      obtain ⟨p, hpe⟩ : ∃ p, i' = p + 1 := ⟨i' - 1, by omega⟩
                      have hb0 : (0 : Int) ≤ (i' : Int) := by omega
                      have hb1 : (i' : Int) < (l : Int) := by omega
                      have hb2 : (0 : Int) ≤ (p : Int) := by omega
                      have hb3 : (p : Int) < (l : Int) := by omega
                      have hpi : (i' : Int) - 1 = (p : Int) := by omega
                      have hw1 : IntKind.i64.wrap (p : Int) = (p : Int) := wrap_ok (by omega) (by omega)
                      have HC1 : Hid (∀ wq, Same wd wq → wq.cell? ⟨ba, oa + p, none⟩ = some (.pointer (some ⟨D.blk p, 0, none⟩))) := fun wq h => (h.cell _).trans (hca p (by omega))
                      have HC2 : Hid (∀ wq, Same wd wq → wq.cell? ⟨ba, oa + i', none⟩ = some (.pointer (some ⟨D.blk (p + 1), 0, none⟩))) := fun wq h => by rw [← hpe]; exact (h.cell _).trans (hca i' hpn)
                      obtain ⟨L1, R1, hf1⟩ := HTD.out.frag (i := p) (by rw [HNE.out]; omega)
                      obtain ⟨L2, R2, hf2⟩ := HTD.out.frag (i := p + 1) (by rw [HNE.out]; omega)
                      have hg1 := HG.out.pos p (by rw [HNE.out]; omega)
                      have hg2 := HG.out.pos (p + 1) (by rw [HNE.out]; omega)
                      have hg3 := HG.out.asc p (p + 1) (by omega) (by rw [HNE.out]; omega)
                      have HST1 : Hid (∀ wq, Same wd wq → Calls Try.prog 20 #[.pointer (some ⟨D.blk p, 0, none⟩)] wq fun e w' => e = .returned (.slice (some ⟨D.sb p, 0, none⟩) (enc (lo ps p)).length (enc (lo ps p)).length) ∧ w' = wq) := fun wq h => start_any (hf1.same h)
                      have HST2 : Hid (∀ wq, Same wd wq → Calls Try.prog 20 #[.pointer (some ⟨D.blk (p + 1), 0, none⟩)] wq fun e w' => e = .returned (.slice (some ⟨D.sb (p + 1), 0, none⟩) (enc (lo ps (p + 1))).length (enc (lo ps (p + 1))).length) ∧ w' = wq) := fun wq h => start_any (hf2.same h)
                      have HLS : Hid (∀ wq, Same wd wq → Calls Try.prog 19 #[.slice (some ⟨D.sb p, 0, none⟩) (enc (lo ps p)).length (enc (lo ps p)).length, .slice (some ⟨D.sb (p + 1), 0, none⟩) (enc (lo ps (p + 1))).length (enc (lo ps (p + 1))).length] wq fun e w' => e = .returned (.bool true) ∧ Same wd w') := fun wq h =>
                        (less_any (frag_start (hf1.same h) HG.out (by rw [HNE.out]; omega)) (frag_start (hf2.same h) HG.out (by rw [HNE.out]; omega)) (by have := enc_len (lo ps p); omega) (by have := enc_len (lo ps (p + 1)); omega) ((cmp_lt _ _ (by omega) (by omega) (by omega) (by omega)).2 (by omega))).mono (by rintro e w' ⟨rfl, hs⟩; exact ⟨rfl, h.trans hs⟩)
                      clear hf1 hf2 hg1 hg2 hg3 hca hpe
                      generalize (enc (lo ps p)).length = l1 at HST1 HLS
                      generalize (enc (lo ps (p + 1))).length = l2 at HST2 HLS
                      generalize D.sb p = s1 at HST1 HLS
                      generalize D.sb (p + 1) = s2 at HST2 HLS
                      generalize D.blk p = n1' at HST1 HC1
                      generalize D.blk (p + 1) = n2' at HST2 HC2
                      have hS0 : Same wd wr := HSZ.out
                      have hS1 : Same wd wr.drew := hS0.drew
                      have t1 := HC1.out _ hS0
                      have t2 := HC2.out _ hS0
                      have u1 := HC1.out _ hS1
                      have u2 := HC2.out _ hS1
                      go_wp2_with fail
                      go_region_held3 (fun w' => Same wd w' ∧ w'.cell? ⟨ba, oa + p, none⟩ = some (.pointer (some ⟨n1', 0, none⟩)) ∧ w'.cell? ⟨ba, oa + i', none⟩ = some (.pointer (some ⟨n2', 0, none⟩))) (first | assumption | exact ⟨by assumption, by assumption, by assumption⟩ | simp [*])
                        (first
                        | (go_at_call_of 20 n1'; refine (HST1.out _ (by assumption)).mono ?_; rintro e w' ⟨rfl, rfl⟩)
                        | (go_at_call_of 20 n2'; refine (HST2.out _ (by assumption)).mono ?_; rintro e w' ⟨rfl, rfl⟩)
                        | (go_at_call 19; refine (HLS.out _ (by assumption)).mono ?_; rintro e w' ⟨rfl, hs'⟩; have x1 := HC1.out _ hs'; have x2 := HC2.out _ hs'))
                      all_goals
                        go_wp2
                        go_roundg (l - (i' + 1))
                        case measure => omega
                        case rel => exact ⟨i' + 1, by omega, by omega, by go_num, by omega, by assumption⟩
                    · have hyz := hide (hy.out _ HSZ.out)
                      go_wp2
                      go_ret
                      exact hyz.out

end Go.Proofs.Qxb6000727a
