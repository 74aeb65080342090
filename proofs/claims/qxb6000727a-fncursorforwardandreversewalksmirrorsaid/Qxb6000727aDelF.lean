/-
  (*fragmentCursor).deletion (34), forward: the cursor moves.
-/
import Derived.Test.Qxb6000727aDel
set_option linter.unusedSimpArgs false
set_option linter.unusedVariables false
namespace Go.Proofs.Qxb6000727a
open Go.RowKit

/-- The cursor stands behind the first K pieces, forward. -/
def MovF (w0 w : World) (ps : List Pc) (sh : Int) (D : TB) (cb : Nat) (c : Cr) (K : Nat) (wt : World) : Prop :=
  ∃ v M, CurIn w0 wt D cb { c with v := v, rdy := true, pc := found D K } M ∧ Fwd w0 ps sh D ps.length M K ∧ CStep w wt cb c { c with v := v, rdy := true, pc := found D K }

theorem DelF.same {w0 w : World} {ps : List Pc} {sh : Int} {D : TB} {cb : Nat} {c : Cr} {q : Int} {e : Ending} {w1 w2 : World} (h : DelF w0 w ps sh D cb c q e w1) (k : Same w1 w2) : DelF w0 w ps sh D cb c q e w2 := by
  obtain ⟨c', M', q1, he, h0, h1, hA, hS⟩ := h
  exact ⟨c', M', q1, he, h0, h1, ⟨hA.cur.same k, hA.rev, hA.root, hA.stk, hA.rdy, hA.pc, hA.sq, hA.bd⟩, hS.same k⟩
theorem found_ptr (D : TB) (K : Nat) : ∃ F, found D K = .pointer F := by
  unfold found; split <;> exact ⟨_, rfl⟩
theorem cur_pc {w : World} {cb : Nat} {c : Cr} {x : Value} (h : Blk w cb c.arr 57) (hv : c.pc = x) : w.cell? ⟨cb, 4, none⟩ = some x := by
  have := h.cell 4; rw [← hv]; exact this
theorem cur_v {w : World} {cb : Nat} {c : Cr} {x : Value} (h : Blk w cb c.arr 57) (hv : c.v = x) : w.cell? ⟨cb, 2, none⟩ = some x := by
  have := h.cell 2; rw [← hv]; exact this
theorem cur_rev {w : World} {cb : Nat} {c : Cr} {x : Bool} (h : Blk w cb c.arr 57) (hv : c.rev = x) : w.cell? ⟨cb, 1, none⟩ = some (.bool x) := by
  have := h.cell 1; rw [← hv]; exact this
theorem cur_rdy {w : World} {cb : Nat} {c : Cr} {x : Bool} (h : Blk w cb c.arr 57) (hv : c.rdy = x) : w.cell? ⟨cb, 3, none⟩ = some (.bool x) := by
  have := h.cell 3; rw [← hv]; exact this
theorem CurIn.tail {w0 wt : World} {D : TB} {cb : Nat} {c : Cr} {M : List Nat} (h : CurIn w0 wt D cb c M) (s : Int) (b : Value) : CurIn w0 ((wt.setCell ⟨cb, 5, none⟩ (.int .u64 s)).setCell ⟨cb, 6, none⟩ b) D cb { c with sq := s, bd := b } M :=
  (h.set (c' := { c with sq := s }) 5 _ rfl rfl).set 6 _ rfl rfl
theorem CStep.tail {w wt : World} {cb : Nat} {c0 c : Cr} (h : CStep w wt cb c0 c) (s : Int) (b : Value) : CStep w ((wt.setCell ⟨cb, 5, none⟩ (.int .u64 s)).setCell ⟨cb, 6, none⟩ b) cb c0 { c with sq := s, bd := b } :=
  (h.trans (CStep.set (c' := { c with sq := s }) 5 _ rfl)).trans (CStep.set 6 _ rfl)
theorem cur_sq {w : World} {cb : Nat} {c : Cr} (h : Blk w cb c.arr 57) : w.cell? ⟨cb, 5, none⟩ = some (.int .u64 c.sq) := h.cell 5
theorem cur_bd {w : World} {cb : Nat} {c : Cr} (h : Blk w cb c.arr 57) : w.cell? ⟨cb, 6, none⟩ = some c.bd := h.cell 6

set_option maxHeartbeats 8000000 in
set_option maxRecDepth 100000 in
theorem delF_ready {w0 w : World} {ps : List Pc} {sh : Int} {D : TB} (hT : Tr w0 ps sh D) {cb : Nat} {c : Cr} {q : Int} {K0 : Nat} {M0 : List Nat} (hC : CurIn w0 w D cb c M0) (hF : Fwd w0 ps sh D ps.length M0 K0) (hpc : c.pc = found D K0) (hrdy : c.rdy = true) (hK0 : K0 ≤ cut ps q)
    (hrev : c.rev = false) (hroot : c.root = ptrB (rootp sh D 0 ps.length)) (h0 : 0 ≤ q) (h1 : q ≤ 4294967295)
    {a : Option Addr} {n kc : Nat} (hK : KeyB w a n (enc q)) (hw : Calls Try.prog 37 #[.pointer (some ⟨cb, 0, none⟩), .slice a n kc] w fun e w' => e = .returned (.bool false) ∧ w' = w) :
    Calls Try.prog 34 #[.pointer (some ⟨cb, 0, none⟩), .slice a n kc] w (DelF w0 w ps sh D cb c q) := by
  have hcb := hC.blk
  have k3 := cur_rdy hcb hrdy
  have k1 := cur_rev hcb hrev
  have hst : Hid (∃ K1, K1 ≤ cut ps q ∧ MovF w0 w ps sh D cb c K1 w) := by
    refine ⟨K0, hK0, c.v, M0, ?_, hF, ?_⟩
    · rw [← hpc, ← hrdy]; exact hC
    · rw [← hpc, ← hrdy]; exact CStep.refl _ _ _
  have HW := hide hw
  have HT := hide hT
  have HKB := hide hK
  have HCR := hide hC
  have HREV := hide hrev
  have HROOT := hide hroot
  have hcl := cut_le ps q
  have HCI := hide (cut_iff ps hT.good q)
  obtain ⟨KK, hKK⟩ : ∃ KK, KK = cut ps q := ⟨_, rfl⟩
  have HKK := hide hKK
  rw [← hKK] at hcl hst HCI
  clear hw hT hK hC hF hpc hrdy hrev hroot hcb hK0 hKK
  go_enter Try.func34, Try.ntmps34
  go_wp2_with fail
  refine HW.out.mono ?_
  rintro e w2 ⟨rfl, rfl⟩
  go_upto_if 23 with fail
  go_cut [5] (fun _ wt => MovF w0 w2 ps sh D cb c KK wt)
  case first =>
    obtain ⟨K1, hK1, v0, M0, hCx, hFx, hSx⟩ := hst.out
    obtain ⟨a0, cap0, hv0⟩ := hCx.shape
    have k2 := cur_v hCx.blk hv0
    have HM0 := hide (show MovF w0 w2 ps sh D cb c K1 w2 from ⟨v0, M0, hCx, hFx, hSx⟩)
    have HV0 := hide hv0
    have HCx := hide hCx
    have HFx := hide hFx
    have HSx := hide hSx
    clear hCx hFx hSx hv0 hst HW
    go_wp2_with fail
    go_loopg [5] (ps.length - K1) (fun k x wr => ∃ (K2 : Nat) (v : Value) (M : List Nat), ps.length - K2 ≤ k ∧ K2 ≤ KK ∧ x = .int .i64 M.length ∧ CurIn w0 wr D cb { c with v := v, rdy := true, pc := found D K2 } M ∧ Fwd w0 ps sh D ps.length M K2 ∧ CStep w2 wr cb c { c with v := v, rdy := true, pc := found D K2 })
    case atStart => exact ⟨K1, v0, M0, by omega, hK1, rfl, HCx.out, HFx.out, HSx.out⟩
    case round =>
      obtain ⟨K2, v, M, hk, hK2, rfl, hCx, hFx, hSx⟩ := hrel
      clear HM0 HV0 HCx HFx HSx k1 k2 k3
      have HCx := hide hCx
      have HFx := hide hFx
      have HSx := hide hSx
      have HKx := hide (HKB.out.step HCR.out hSx)
      clear hCx hFx hSx
      rcases M.eq_nil_or_concat with hM | ⟨M1, m, hM⟩
      · subst hM
        have he : K2 = ps.length := HFx.out
        have he2 : K2 = KK := by omega
        subst he2
        clear he
        go_wp2
        go_meet
        case rel => exact ⟨v, [], HCx.out, HFx.out, HSx.out⟩
      · rw [List.concat_eq_append] at hM
        subst hM
        obtain ⟨hcm, _⟩ := HFx.out.top
        subst hcm
        have hlen := HFx.out.len
        simp only [List.length_append, List.length_cons, List.length_nil, Nat.zero_add] at hlen
        have hsm := HT.out.small
        obtain ⟨g, cap, hv, hcap, hcells⟩ := HCx.out.shape_pos (by simp)
        have hcm := hcells M1.length (by simp)
        simp only [List.getElem_append_right (Nat.le_refl _), Nat.sub_self, List.getElem_cons_zero] at hcm
        unfold nodeP at hcm
        rw [List.length_append, List.length_cons, List.length_nil, Nat.zero_add] at hv hcap
        have j2 := cur_v HCx.out.blk hv
        obtain ⟨L, R, hfr⟩ := HT.out.frag (i := K2) (by omega)
        have hf2 := hfr.below HCx.out.bel
        have n0 : wr.cell? ⟨D.blk K2, 0, none⟩ = some (.slice (some ⟨D.sb K2, 0, none⟩) (enc (lo ps K2)).length (enc (lo ps K2)).length) := hf2.node.cell 0
        have hks := hide (frag_start hf2 HT.out.good (by omega))
        have hkk := hide HKx.out.keyIn
        have hiff := HCI.out K2 (by omega)
        have hgp := HT.out.good.pos K2 (by omega)
        have hcmp := cmp_le (lo ps K2) q (by omega) (by omega) h0 h1
        have HV := hide hv
        clear hcells hv hfr hf2 hgp
        simp only [List.length_append, List.length_cons, List.length_nil, Nat.zero_add]
        by_cases hlt : K2 < KK
        · have hz := hcmp.2 (hiff.2 hlt)
          have hpop := hide (pop_fwd HT.out HCx.out HFx.out HREV.out)
          clear hcmp hiff
          go_wp2_with fail
          refine (compare_any hks.out hkk.out).mono ?_
          rintro e w3 ⟨rfl, rfl⟩
          generalize cmpL (enc (lo ps K2)) (enc q) = z at hz
          go_wp2_with fail
          refine hpop.out.mono ?_
          rintro e w4 ⟨v', M', rfl, hC', hF', hS'⟩
          have kf := hC'.blk.free
          obtain ⟨x4, k4⟩ : ∃ x, w4.cell? ⟨cb, 4, none⟩ = some x := ⟨_, hC'.blk.cell 4⟩
          obtain ⟨a5, cap5, hv5⟩ := hC'.shape
          have k5 := cur_v hC'.blk hv5
          have hC5 : Hid (CurIn w0 (w4.setCell ⟨cb, 4, none⟩ (.pointer (some ⟨D.blk K2, 0, none⟩))) D cb { c with v := v', rdy := true, pc := found D (K2 + 1) } M') := hC'.set 4 _ rfl rfl
          have hS5 : Hid (CStep w2 (w4.setCell ⟨cb, 4, none⟩ (.pointer (some ⟨D.blk K2, 0, none⟩))) cb c { c with v := v', rdy := true, pc := found D (K2 + 1) }) := HSx.out.trans (hS'.trans (CStep.set 4 _ rfl))
          have HF5 := hide hF'
          clear hC' hF' hS' hv5 j2 hcm n0
          unfold nodeP
          go_wp2
          go_roundg (ps.length - (K2 + 1))
          case measure => omega
          case rel => exact ⟨K2 + 1, v', M', by omega, by omega, rfl, hC5.out, HF5.out, hS5.out⟩
        · have hz : ¬ cmpL (enc (lo ps K2)) (enc q) ≤ 0 := fun e => hlt (hiff.1 (hcmp.1 e))
          have he2 : K2 = KK := by omega
          subst he2
          clear hcmp hiff
          go_wp2_with fail
          refine (compare_any hks.out hkk.out).mono ?_
          rintro e w3 ⟨rfl, rfl⟩
          generalize cmpL (enc (lo ps K2)) (enc q) = z at hz
          go_wp2
          go_meet
          case rel => exact ⟨v, _, HCx.out, HFx.out, HSx.out⟩
  case rest =>
    have HCUT := hide hcut
    clear hcut
    clear k1 k3 hst HW
    obtain ⟨v, M, hCx, hFx, hSx⟩ := HCUT.out
    have kf := hCx.blk.free
    obtain ⟨F, hF⟩ := found_ptr D KK
    have k4 := cur_pc hCx.blk hF
    obtain ⟨pa, pcap, hv⟩ := hCx.shape
    have k2 := cur_v hCx.blk hv
    have k1 := cur_rev hCx.blk HREV.out
    have k5 := cur_sq hCx.blk
    have k6 := cur_bd hCx.blk
    have HC2 : Hid (CurIn w0 ((wc.setCell ⟨cb, 5, none⟩ (.int .u64 0)).setCell ⟨cb, 6, none⟩ (.slice none 0 0)) D cb { c with v := v, rdy := true, pc := found D KK, sq := 0, bd := .slice none 0 0 } M) :=
      hCx.tail 0 _
    have HS2 : Hid (CStep w2 ((wc.setCell ⟨cb, 5, none⟩ (.int .u64 0)).setCell ⟨cb, 6, none⟩ (.slice none 0 0)) cb c { c with v := v, rdy := true, pc := found D KK, sq := 0, bd := .slice none 0 0 }) :=
      hSx.tail 0 _
    have HK2 := hide (HKB.out.step HCR.out HS2.out)
    have HF := hide hFx
    have HFO := hide hF
    have HV := hide hv
    generalize c.sq = sq0 at k5
    generalize c.bd = bd0 at k6
    have HCx := hide hCx
    clear hCx hFx hSx HCUT hF hv HKB
    rcases KK with _ | i
    · have hF0 : F = none := by have := HFO.out; rw [found_zero] at this; simp at this; exact this.symm
      subst hF0
      have hans : Hid (ans ps q = 0) := by show ans ps q = 0; unfold ans; rw [if_neg]; rw [← HKK.out]; omega
      rcases M.eq_nil_or_concat with hM | ⟨M1, m, hM⟩
      · subst hM
        have hN : 0 = ps.length := HF.out
        have hfin : Hid (DelF w0 w2 ps sh D cb c q (.returned (.int .u64 0)) ((wc.setCell ⟨cb, 5, none⟩ (.int .u64 0)).setCell ⟨cb, 6, none⟩ (.slice none 0 0))) := by
          refine ⟨_, [], q, by rw [hans.out], h0, Int.le_refl _, ⟨HC2.out, HREV.out, HROOT.out, by rw [← HKK.out]; exact HF.out, rfl, by rw [← HKK.out], hans.out.symm, ?_⟩, HS2.out⟩
          unfold boundF; rw [← HKK.out, if_neg (by omega), if_neg (by omega)]
        simp only [List.length_nil] at k2
        clear hN hcl
        go_wp2
        go_ret
        exact hfin.out
      · rw [List.concat_eq_append] at hM
        subst hM
        obtain ⟨hcm, _⟩ := HF.out.top
        subst hcm
        have hlen := HF.out.len
        simp only [List.length_append, List.length_cons, List.length_nil, Nat.zero_add] at hlen k2
        have hsm := HT.out.small
        obtain ⟨g, cap, hv, hcap, hcells⟩ := HCx.out.shape_pos (by simp)
        have hcm := hcells M1.length (by simp)
        simp only [List.getElem_append_right (Nat.le_refl _), Nat.sub_self, List.getElem_cons_zero] at hcm
        unfold nodeP at hcm
        have hv2 : Hid (pa = some ⟨g, 0, none⟩ ∧ pcap = cap) := by
          have := HV.out.symm.trans hv
          simp only [Value.slice.injEq] at this
          exact ⟨this.1, this.2.2⟩
        obtain ⟨rfl, rfl⟩ := hv2
        rw [List.length_append, List.length_cons, List.length_nil, Nat.zero_add] at hcap
        obtain ⟨L, R, hfr⟩ := HT.out.frag (i := 0) (by omega)
        have hf2 := hfr.below HC2.out.bel
        have hne : cb ≠ D.blk 0 := fun e => HC2.out.blk.ne hf2.node (by decide) e
        have hgne : cb ≠ g := fun e => HC2.out.row_ne (by rw [hv, e]; rfl)
        have n0 : wc.cell? ⟨D.blk 0, 0, none⟩ = some (.slice (some ⟨D.sb 0, 0, none⟩) (enc (lo ps 0)).length (enc (lo ps 0)).length) := (hfr.below HCx.out.bel).node.cell 0
        have hfin : Hid (DelF w0 w2 ps sh D cb c q (.returned (.int .u64 0)) (((wc.setCell ⟨cb, 5, none⟩ (.int .u64 0)).setCell ⟨cb, 6, none⟩ (.slice none 0 0)).setCell ⟨cb, 6, none⟩ (.slice (some ⟨D.sb 0, 0, none⟩) (enc (lo ps 0)).length (enc (lo ps 0)).length))) := by
          refine ⟨_, _, q, by rw [hans.out], h0, Int.le_refl _, ⟨HC2.out.set (c' := { c with v := v, rdy := true, pc := found D 0, sq := 0, bd := keyV (D.sb 0) (lo ps 0) }) 6 _ rfl rfl, HREV.out, HROOT.out, by rw [← HKK.out]; exact HF.out, rfl, by rw [← HKK.out], hans.out.symm, ?_⟩, HS2.out.trans (CStep.set 6 _ rfl)⟩
          unfold boundF; rw [← HKK.out, if_neg (by omega), if_pos (by omega)]
        clear hcells hv hfr hf2
        go_wp2
        go_region
        all_goals (try go_wp2)
        all_goals
          go_ret
          exact hfin.out.same (Same.refl _).drew
    · have hFi : F = some ⟨D.blk i, 0, none⟩ := by have := HFO.out; rw [found_succ] at this; simp at this; exact this.symm
      subst hFi
      obtain ⟨L, R, hfr⟩ := HT.out.frag (i := i) (by omega)
      have hf2 := hfr.below HC2.out.bel
      have hf1 := hfr
      have hnd := (hfr.below HCx.out.bel).node
      have n1 : wc.cell? ⟨D.blk i, 1, none⟩ = some (.slice (some ⟨D.eb i, 0, none⟩) (enc (hi ps i)).length (enc (hi ps i)).length) := hnd.cell 1
      have hne : cb ≠ D.blk i := fun e => HC2.out.blk.ne hf2.node (by decide) e
      have n1' : ((wc.setCell ⟨cb, 5, none⟩ (.int .u64 0)).setCell ⟨cb, 6, none⟩ (.slice none 0 0)).cell? ⟨D.blk i, 1, none⟩ = some (.slice (some ⟨D.eb i, 0, none⟩) (enc (hi ps i)).length (enc (hi ps i)).length) := hf2.node.cell 1
      have n2' : ((wc.setCell ⟨cb, 5, none⟩ (.int .u64 0)).setCell ⟨cb, 6, none⟩ (.slice none 0 0)).cell? ⟨D.blk i, 2, none⟩ = some (.int .u64 (sq ps i)) := hf2.node.cell 2
      have N1 := hide n1'
      have N2 := hide n2'
      have hke := hide (frag_end hf2 HT.out.good (by omega))
      have hkk := hide HK2.out.keyIn
      have hgp := HT.out.good.pos i (by omega)
      have hlt := cmp_lt q (hi ps i) h0 h1 (by omega) (by omega)
      clear hfr hf2 hf1 hgp hnd n1' n2'
      by_cases hq : q < hi ps i
      · have hz := hlt.2 hq
        clear hlt
        have hans : Hid (ans ps q = sq ps i) := by show ans ps q = sq ps i; unfold ans; rw [← HKK.out, if_pos ⟨by omega, by simpa using hq⟩]; rfl
        go_wp2_with fail
        refine (compare_any hkk.out hke.out).mono ?_
        rintro e w3 ⟨rfl, hw3⟩
        generalize cmpL (enc q) (enc (hi ps i)) = z at hz
        rw [← hw3] at HC2 HS2 N1 N2
        have n1 := N1.out
        have n2 := N2.out
        have kf := HC2.out.blk.free
        have k4 := cur_pc HC2.out.blk HFO.out
        have k1 := cur_rev HC2.out.blk HREV.out
        have k5 := cur_sq HC2.out.blk
        have k6 := cur_bd HC2.out.blk
        simp only at k5 k6
        have hfin : Hid (DelF w0 w2 ps sh D cb c q (.returned (.int .u64 (sq ps i))) ((w3.setCell ⟨cb, 5, none⟩ (.int .u64 (sq ps i))).setCell ⟨cb, 6, none⟩ (.slice (some ⟨D.eb i, 0, none⟩) (enc (hi ps i)).length (enc (hi ps i)).length))) := by
          refine ⟨_, _, q, by rw [hans.out], h0, Int.le_refl _, ⟨HC2.out.tail (sq ps i) (keyV (D.eb i) (hi ps i)), HREV.out, HROOT.out, by rw [← HKK.out]; exact HF.out, rfl, by rw [← HKK.out], hans.out.symm, ?_⟩, HS2.out.tail _ _⟩
          unfold boundF; rw [← HKK.out, if_pos ⟨by omega, by simpa using hq⟩]; rfl
        clear hw3
        generalize (enc (hi ps i)).length = ln at n1 hfin
        go_wp2
        go_region
        all_goals (try go_wp2)
        all_goals
          go_ret
          exact hfin.out.same (Same.refl _).drew
      · have hz : ¬ cmpL (enc q) (enc (hi ps i)) < 0 := fun e => hq (hlt.1 e)
        clear hlt N1 N2
        have hans : Hid (ans ps q = 0) := by show ans ps q = 0; unfold ans; rw [← HKK.out, if_neg (fun e => hq (by simpa using e.2))]
        rcases M.eq_nil_or_concat with hM | ⟨M1, m, hM⟩
        · subst hM
          have hN : i + 1 = ps.length := HF.out
          have hfin : Hid (DelF w0 w2 ps sh D cb c q (.returned (.int .u64 0)) ((wc.setCell ⟨cb, 5, none⟩ (.int .u64 0)).setCell ⟨cb, 6, none⟩ (.slice none 0 0))) := by
            refine ⟨_, [], q, by rw [hans.out], h0, Int.le_refl _, ⟨HC2.out, HREV.out, HROOT.out, by rw [← HKK.out]; exact HF.out, rfl, by rw [← HKK.out], hans.out.symm, ?_⟩, HS2.out⟩
            unfold boundF; rw [← HKK.out, if_neg (fun e => hq (by simpa using e.2)), if_neg (by omega)]
          simp only [List.length_nil] at k2
          clear hN hcl
          go_wp2_with fail
          refine (compare_any hkk.out hke.out).mono ?_
          rintro e w3 ⟨rfl, rfl⟩
          generalize cmpL (enc q) (enc (hi ps i)) = z at hz
          go_wp2
          go_ret
          exact hfin.out
        · rw [List.concat_eq_append] at hM
          subst hM
          obtain ⟨hcm, _⟩ := HF.out.top
          subst hcm
          have hlen := HF.out.len
          simp only [List.length_append, List.length_cons, List.length_nil, Nat.zero_add] at hlen k2
          have hsm := HT.out.small
          obtain ⟨g, cap, hv, hcap, hcells⟩ := HC2.out.shape_pos (by simp)
          have hcm := hcells M1.length (by simp)
          simp only [List.getElem_append_right (Nat.le_refl _), Nat.sub_self, List.getElem_cons_zero] at hcm
          unfold nodeP at hcm
          rw [List.length_append, List.length_cons, List.length_nil, Nat.zero_add] at hcap hv
          obtain ⟨L', R', hfr'⟩ := HT.out.frag (i := i + 1) (by omega)
          have hf3 := hfr'.below HC2.out.bel
          have N0 : Hid (((wc.setCell ⟨cb, 5, none⟩ (.int .u64 0)).setCell ⟨cb, 6, none⟩ (.slice none 0 0)).cell? ⟨D.blk (i + 1), 0, none⟩ = some (.slice (some ⟨D.sb (i + 1), 0, none⟩) (enc (lo ps (i + 1))).length (enc (lo ps (i + 1))).length)) := hf3.node.cell 0
          have HBD : Hid (boundF ps D q = keyV (D.sb (i + 1)) (lo ps (i + 1))) := by show boundF ps D q = _; unfold boundF; rw [← HKK.out, if_neg (fun e => hq (by simpa using e.2)), if_pos (by omega)]
          have HV2 := hide hv
          have HCM := hide hcm
          clear hcells hv hfr' hf3 hcm
          go_wp2_with fail
          refine (compare_any hkk.out hke.out).mono ?_
          rintro e w3 ⟨rfl, hw3⟩
          generalize cmpL (enc q) (enc (hi ps i)) = z at hz
          rw [← hw3] at HC2 HS2 N0 HCM
          have n0 := N0.out
          have hcm := HCM.out
          have kf := HC2.out.blk.free
          have k4 := cur_pc HC2.out.blk HFO.out
          have k1 := cur_rev HC2.out.blk HREV.out
          have k5 := cur_sq HC2.out.blk
          have k6 := cur_bd HC2.out.blk
          have k2 := cur_v HC2.out.blk HV2.out
          simp only at k5 k6
          have hfin : Hid (DelF w0 w2 ps sh D cb c q (.returned (.int .u64 0)) (w3.setCell ⟨cb, 6, none⟩ (.slice (some ⟨D.sb (i + 1), 0, none⟩) (enc (lo ps (i + 1))).length (enc (lo ps (i + 1))).length))) := by
            refine ⟨_, _, q, by rw [hans.out], h0, Int.le_refl _, ⟨HC2.out.set (c' := { c with v := v, rdy := true, pc := found D (i + 1), sq := 0, bd := keyV (D.sb (i + 1)) (lo ps (i + 1)) }) 6 _ rfl rfl, HREV.out, HROOT.out, by rw [← HKK.out]; exact HF.out, rfl, by rw [← HKK.out], hans.out.symm, ?_⟩, HS2.out.trans (CStep.set 6 _ rfl)⟩
            exact HBD.out.symm
          clear hw3
          generalize (enc (lo ps (i + 1))).length = ln at n0 hfin
          go_wp2
          go_region
          all_goals (try go_wp2)
          all_goals
            go_ret
            exact hfin.out.same (Same.refl _).drew

set_option maxHeartbeats 8000000 in
set_option maxRecDepth 100000 in
theorem delF_first {w0 w2 : World} {ps : List Pc} {sh : Int} {D : TB} (hT : Tr w0 ps sh D) {cb : Nat} {c : Cr} {q : Int} {M0 : List Nat} (hC : CurIn w0 w2 D cb c M0) (hrdy : c.rdy = false)
    (hrev : c.rev = false) (hroot : c.root = ptrB (rootp sh D 0 ps.length)) (h0 : 0 ≤ q) (h1 : q ≤ 4294967295)
    {a : Option Addr} {n kc : Nat} (hK : KeyB w2 a n (enc q)) :
    Calls Try.prog 34 #[.pointer (some ⟨cb, 0, none⟩), .slice a n kc] w2 (DelF w0 w2 ps sh D cb c q) := by
  have hcb := hC.blk
  have k3 := cur_rdy hcb hrdy
  have hsk := hide (seek_fwd (kc := kc) hT hC hrev hroot hK (cuts_enc hT.good h0 h1))
  have HT := hide hT
  have HKB := hide hK
  have HCR := hide hC
  have HREV := hide hrev
  have HROOT := hide hroot
  have hcl := cut_le ps q
  have HCI := hide (cut_iff ps hT.good q)
  obtain ⟨KK, hKK⟩ : ∃ KK, KK = cut ps q := ⟨_, rfl⟩
  have HKK := hide hKK
  rw [← hKK] at hcl hsk HCI
  clear hT hK hC hrdy hrev hroot hcb hKK
  go_enter Try.func34, Try.ntmps34
  go_upto_if 23 with fail
  go_cut [5] (fun _ wt => MovF w0 w2 ps sh D cb c KK wt)
  case first =>
    go_wp2_with fail
    refine hsk.out.mono ?_
    rintro e w3 ⟨v', M', rfl, hC', hF', hS'⟩
    have kf := hC'.blk.free
    obtain ⟨x4, k4⟩ : ∃ x, w3.cell? ⟨cb, 4, none⟩ = some x := ⟨_, hC'.blk.cell 4⟩
    obtain ⟨x3, k3'⟩ : ∃ x, w3.cell? ⟨cb, 3, none⟩ = some x := ⟨_, hC'.blk.cell 3⟩
    have hm : Hid (MovF w0 w2 ps sh D cb c KK ((w3.setCell ⟨cb, 4, none⟩ (found D KK)).setCell ⟨cb, 3, none⟩ (.bool true))) :=
      ⟨v', M', (hC'.set (c' := { c with v := v', pc := found D KK }) 4 _ rfl rfl).set 3 _ rfl rfl, hF', (hS'.trans (CStep.set (c' := { c with v := v', pc := found D KK }) 4 _ rfl)).trans (CStep.set 3 _ rfl)⟩
    clear hC' hF' hS'
    obtain ⟨F, hF⟩ := found_ptr D KK
    rw [hF] at hm ⊢
    clear hF
    go_wp2
    go_meet
    case rel => exact hm.out
  case rest =>
    have HCUT := hide hcut
    clear hcut
    clear k3 hsk
    obtain ⟨v, M, hCx, hFx, hSx⟩ := HCUT.out
    have kf := hCx.blk.free
    obtain ⟨F, hF⟩ := found_ptr D KK
    have k4 := cur_pc hCx.blk hF
    obtain ⟨pa, pcap, hv⟩ := hCx.shape
    have k2 := cur_v hCx.blk hv
    have k1 := cur_rev hCx.blk HREV.out
    have k5 := cur_sq hCx.blk
    have k6 := cur_bd hCx.blk
    have HC2 : Hid (CurIn w0 ((wc.setCell ⟨cb, 5, none⟩ (.int .u64 0)).setCell ⟨cb, 6, none⟩ (.slice none 0 0)) D cb { c with v := v, rdy := true, pc := found D KK, sq := 0, bd := .slice none 0 0 } M) :=
      hCx.tail 0 _
    have HS2 : Hid (CStep w2 ((wc.setCell ⟨cb, 5, none⟩ (.int .u64 0)).setCell ⟨cb, 6, none⟩ (.slice none 0 0)) cb c { c with v := v, rdy := true, pc := found D KK, sq := 0, bd := .slice none 0 0 }) :=
      hSx.tail 0 _
    have HK2 := hide (HKB.out.step HCR.out HS2.out)
    have HF := hide hFx
    have HFO := hide hF
    have HV := hide hv
    generalize c.sq = sq0 at k5
    generalize c.bd = bd0 at k6
    have HCx := hide hCx
    clear hCx hFx hSx HCUT hF hv HKB
    rcases KK with _ | i
    · have hF0 : F = none := by have := HFO.out; rw [found_zero] at this; simp at this; exact this.symm
      subst hF0
      have hans : Hid (ans ps q = 0) := by show ans ps q = 0; unfold ans; rw [if_neg]; rw [← HKK.out]; omega
      rcases M.eq_nil_or_concat with hM | ⟨M1, m, hM⟩
      · subst hM
        have hN : 0 = ps.length := HF.out
        have hfin : Hid (DelF w0 w2 ps sh D cb c q (.returned (.int .u64 0)) ((wc.setCell ⟨cb, 5, none⟩ (.int .u64 0)).setCell ⟨cb, 6, none⟩ (.slice none 0 0))) := by
          refine ⟨_, [], q, by rw [hans.out], h0, Int.le_refl _, ⟨HC2.out, HREV.out, HROOT.out, by rw [← HKK.out]; exact HF.out, rfl, by rw [← HKK.out], hans.out.symm, ?_⟩, HS2.out⟩
          unfold boundF; rw [← HKK.out, if_neg (by omega), if_neg (by omega)]
        simp only [List.length_nil] at k2
        clear hN hcl
        go_wp2
        go_ret
        exact hfin.out
      · rw [List.concat_eq_append] at hM
        subst hM
        obtain ⟨hcm, _⟩ := HF.out.top
        subst hcm
        have hlen := HF.out.len
        simp only [List.length_append, List.length_cons, List.length_nil, Nat.zero_add] at hlen k2
        have hsm := HT.out.small
        obtain ⟨g, cap, hv, hcap, hcells⟩ := HCx.out.shape_pos (by simp)
        have hcm := hcells M1.length (by simp)
        simp only [List.getElem_append_right (Nat.le_refl _), Nat.sub_self, List.getElem_cons_zero] at hcm
        unfold nodeP at hcm
        have hv2 : Hid (pa = some ⟨g, 0, none⟩ ∧ pcap = cap) := by
          have := HV.out.symm.trans hv
          simp only [Value.slice.injEq] at this
          exact ⟨this.1, this.2.2⟩
        obtain ⟨rfl, rfl⟩ := hv2
        rw [List.length_append, List.length_cons, List.length_nil, Nat.zero_add] at hcap
        obtain ⟨L, R, hfr⟩ := HT.out.frag (i := 0) (by omega)
        have hf2 := hfr.below HC2.out.bel
        have hne : cb ≠ D.blk 0 := fun e => HC2.out.blk.ne hf2.node (by decide) e
        have hgne : cb ≠ g := fun e => HC2.out.row_ne (by rw [hv, e]; rfl)
        have n0 : wc.cell? ⟨D.blk 0, 0, none⟩ = some (.slice (some ⟨D.sb 0, 0, none⟩) (enc (lo ps 0)).length (enc (lo ps 0)).length) := (hfr.below HCx.out.bel).node.cell 0
        have hfin : Hid (DelF w0 w2 ps sh D cb c q (.returned (.int .u64 0)) (((wc.setCell ⟨cb, 5, none⟩ (.int .u64 0)).setCell ⟨cb, 6, none⟩ (.slice none 0 0)).setCell ⟨cb, 6, none⟩ (.slice (some ⟨D.sb 0, 0, none⟩) (enc (lo ps 0)).length (enc (lo ps 0)).length))) := by
          refine ⟨_, _, q, by rw [hans.out], h0, Int.le_refl _, ⟨HC2.out.set (c' := { c with v := v, rdy := true, pc := found D 0, sq := 0, bd := keyV (D.sb 0) (lo ps 0) }) 6 _ rfl rfl, HREV.out, HROOT.out, by rw [← HKK.out]; exact HF.out, rfl, by rw [← HKK.out], hans.out.symm, ?_⟩, HS2.out.trans (CStep.set 6 _ rfl)⟩
          unfold boundF; rw [← HKK.out, if_neg (by omega), if_pos (by omega)]
        clear hcells hv hfr hf2
        go_wp2
        go_region
        all_goals (try go_wp2)
        all_goals
          go_ret
          exact hfin.out.same (Same.refl _).drew
    · have hFi : F = some ⟨D.blk i, 0, none⟩ := by have := HFO.out; rw [found_succ] at this; simp at this; exact this.symm
      subst hFi
      obtain ⟨L, R, hfr⟩ := HT.out.frag (i := i) (by omega)
      have hf2 := hfr.below HC2.out.bel
      have hf1 := hfr
      have hnd := (hfr.below HCx.out.bel).node
      have n1 : wc.cell? ⟨D.blk i, 1, none⟩ = some (.slice (some ⟨D.eb i, 0, none⟩) (enc (hi ps i)).length (enc (hi ps i)).length) := hnd.cell 1
      have hne : cb ≠ D.blk i := fun e => HC2.out.blk.ne hf2.node (by decide) e
      have n1' : ((wc.setCell ⟨cb, 5, none⟩ (.int .u64 0)).setCell ⟨cb, 6, none⟩ (.slice none 0 0)).cell? ⟨D.blk i, 1, none⟩ = some (.slice (some ⟨D.eb i, 0, none⟩) (enc (hi ps i)).length (enc (hi ps i)).length) := hf2.node.cell 1
      have n2' : ((wc.setCell ⟨cb, 5, none⟩ (.int .u64 0)).setCell ⟨cb, 6, none⟩ (.slice none 0 0)).cell? ⟨D.blk i, 2, none⟩ = some (.int .u64 (sq ps i)) := hf2.node.cell 2
      have N1 := hide n1'
      have N2 := hide n2'
      have hke := hide (frag_end hf2 HT.out.good (by omega))
      have hkk := hide HK2.out.keyIn
      have hgp := HT.out.good.pos i (by omega)
      have hlt := cmp_lt q (hi ps i) h0 h1 (by omega) (by omega)
      clear hfr hf2 hf1 hgp hnd n1' n2'
      by_cases hq : q < hi ps i
      · have hz := hlt.2 hq
        clear hlt
        have hans : Hid (ans ps q = sq ps i) := by show ans ps q = sq ps i; unfold ans; rw [← HKK.out, if_pos ⟨by omega, by simpa using hq⟩]; rfl
        go_wp2_with fail
        refine (compare_any hkk.out hke.out).mono ?_
        rintro e w3 ⟨rfl, hw3⟩
        generalize cmpL (enc q) (enc (hi ps i)) = z at hz
        rw [← hw3] at HC2 HS2 N1 N2
        have n1 := N1.out
        have n2 := N2.out
        have kf := HC2.out.blk.free
        have k4 := cur_pc HC2.out.blk HFO.out
        have k1 := cur_rev HC2.out.blk HREV.out
        have k5 := cur_sq HC2.out.blk
        have k6 := cur_bd HC2.out.blk
        simp only at k5 k6
        have hfin : Hid (DelF w0 w2 ps sh D cb c q (.returned (.int .u64 (sq ps i))) ((w3.setCell ⟨cb, 5, none⟩ (.int .u64 (sq ps i))).setCell ⟨cb, 6, none⟩ (.slice (some ⟨D.eb i, 0, none⟩) (enc (hi ps i)).length (enc (hi ps i)).length))) := by
          refine ⟨_, _, q, by rw [hans.out], h0, Int.le_refl _, ⟨HC2.out.tail (sq ps i) (keyV (D.eb i) (hi ps i)), HREV.out, HROOT.out, by rw [← HKK.out]; exact HF.out, rfl, by rw [← HKK.out], hans.out.symm, ?_⟩, HS2.out.tail _ _⟩
          unfold boundF; rw [← HKK.out, if_pos ⟨by omega, by simpa using hq⟩]; rfl
        clear hw3
        generalize (enc (hi ps i)).length = ln at n1 hfin
        go_wp2
        go_region
        all_goals (try go_wp2)
        all_goals
          go_ret
          exact hfin.out.same (Same.refl _).drew
      · have hz : ¬ cmpL (enc q) (enc (hi ps i)) < 0 := fun e => hq (hlt.1 e)
        clear hlt N1 N2
        have hans : Hid (ans ps q = 0) := by show ans ps q = 0; unfold ans; rw [← HKK.out, if_neg (fun e => hq (by simpa using e.2))]
        rcases M.eq_nil_or_concat with hM | ⟨M1, m, hM⟩
        · subst hM
          have hN : i + 1 = ps.length := HF.out
          have hfin : Hid (DelF w0 w2 ps sh D cb c q (.returned (.int .u64 0)) ((wc.setCell ⟨cb, 5, none⟩ (.int .u64 0)).setCell ⟨cb, 6, none⟩ (.slice none 0 0))) := by
            refine ⟨_, [], q, by rw [hans.out], h0, Int.le_refl _, ⟨HC2.out, HREV.out, HROOT.out, by rw [← HKK.out]; exact HF.out, rfl, by rw [← HKK.out], hans.out.symm, ?_⟩, HS2.out⟩
            unfold boundF; rw [← HKK.out, if_neg (fun e => hq (by simpa using e.2)), if_neg (by omega)]
          simp only [List.length_nil] at k2
          clear hN hcl
          go_wp2_with fail
          refine (compare_any hkk.out hke.out).mono ?_
          rintro e w3 ⟨rfl, rfl⟩
          generalize cmpL (enc q) (enc (hi ps i)) = z at hz
          go_wp2
          go_ret
          exact hfin.out
        · rw [List.concat_eq_append] at hM
          subst hM
          obtain ⟨hcm, _⟩ := HF.out.top
          subst hcm
          have hlen := HF.out.len
          simp only [List.length_append, List.length_cons, List.length_nil, Nat.zero_add] at hlen k2
          have hsm := HT.out.small
          obtain ⟨g, cap, hv, hcap, hcells⟩ := HC2.out.shape_pos (by simp)
          have hcm := hcells M1.length (by simp)
          simp only [List.getElem_append_right (Nat.le_refl _), Nat.sub_self, List.getElem_cons_zero] at hcm
          unfold nodeP at hcm
          rw [List.length_append, List.length_cons, List.length_nil, Nat.zero_add] at hcap hv
          obtain ⟨L', R', hfr'⟩ := HT.out.frag (i := i + 1) (by omega)
          have hf3 := hfr'.below HC2.out.bel
          have N0 : Hid (((wc.setCell ⟨cb, 5, none⟩ (.int .u64 0)).setCell ⟨cb, 6, none⟩ (.slice none 0 0)).cell? ⟨D.blk (i + 1), 0, none⟩ = some (.slice (some ⟨D.sb (i + 1), 0, none⟩) (enc (lo ps (i + 1))).length (enc (lo ps (i + 1))).length)) := hf3.node.cell 0
          have HBD : Hid (boundF ps D q = keyV (D.sb (i + 1)) (lo ps (i + 1))) := by show boundF ps D q = _; unfold boundF; rw [← HKK.out, if_neg (fun e => hq (by simpa using e.2)), if_pos (by omega)]
          have HV2 := hide hv
          have HCM := hide hcm
          clear hcells hv hfr' hf3 hcm
          go_wp2_with fail
          refine (compare_any hkk.out hke.out).mono ?_
          rintro e w3 ⟨rfl, hw3⟩
          generalize cmpL (enc q) (enc (hi ps i)) = z at hz
          rw [← hw3] at HC2 HS2 N0 HCM
          have n0 := N0.out
          have hcm := HCM.out
          have kf := HC2.out.blk.free
          have k4 := cur_pc HC2.out.blk HFO.out
          have k1 := cur_rev HC2.out.blk HREV.out
          have k5 := cur_sq HC2.out.blk
          have k6 := cur_bd HC2.out.blk
          have k2 := cur_v HC2.out.blk HV2.out
          simp only at k5 k6
          have hfin : Hid (DelF w0 w2 ps sh D cb c q (.returned (.int .u64 0)) (w3.setCell ⟨cb, 6, none⟩ (.slice (some ⟨D.sb (i + 1), 0, none⟩) (enc (lo ps (i + 1))).length (enc (lo ps (i + 1))).length))) := by
            refine ⟨_, _, q, by rw [hans.out], h0, Int.le_refl _, ⟨HC2.out.set (c' := { c with v := v, rdy := true, pc := found D (i + 1), sq := 0, bd := keyV (D.sb (i + 1)) (lo ps (i + 1)) }) 6 _ rfl rfl, HREV.out, HROOT.out, by rw [← HKK.out]; exact HF.out, rfl, by rw [← HKK.out], hans.out.symm, ?_⟩, HS2.out.trans (CStep.set 6 _ rfl)⟩
            exact HBD.out.symm
          clear hw3
          generalize (enc (lo ps (i + 1))).length = ln at n0 hfin
          go_wp2
          go_region
          all_goals (try go_wp2)
          all_goals
            go_ret
            exact hfin.out.same (Same.refl _).drew

end Go.Proofs.Qxb6000727a
