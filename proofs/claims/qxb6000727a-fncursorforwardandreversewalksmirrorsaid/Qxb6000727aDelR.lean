/-
  (*fragmentCursor).deletion (34), in reverse.
-/
import Derived.Test.Qxb6000727aDelF
set_option linter.unusedSimpArgs false
set_option linter.unusedVariables false
namespace Go.Proofs.Qxb6000727a
open Go.RowKit

def boundR (ps : List Pc) (D : TB) (q : Int) : Value :=
  if 0 < cut ps q then (if q < hi ps (cut ps q - 1) then keyV (D.sb (cut ps q - 1)) (lo ps (cut ps q - 1)) else keyV (D.eb (cut ps q - 1)) (hi ps (cut ps q - 1))) else .slice none 0 0

/-- The cursor, in reverse, behind the question q. -/
structure AskR (w0 w : World) (ps : List Pc) (sh : Int) (D : TB) (cb : Nat) (c : Cr) (M : List Nat) (q : Int) : Prop where
  cur : CurIn w0 w D cb c M
  rev : c.rev = true
  root : c.root = ptrB (rootp sh D 0 ps.length)
  stk : Rev w0 ps sh D 0 M (cut ps q - 1)
  rdy : c.rdy = true
  pc : c.pc = found D (cut ps q)
  sq : c.sq = ans ps q
  bd : c.bd = boundR ps D q

def DelR (w0 w : World) (ps : List Pc) (sh : Int) (D : TB) (cb : Nat) (c : Cr) (q : Int) (e : Ending) (w' : World) : Prop :=
  ∃ c' M' q1, e = .returned (.int .u64 (ans ps q)) ∧ q ≤ q1 ∧ AskR w0 w' ps sh D cb c' M' q1 ∧ CStep w w' cb c c'

theorem DelR.same {w0 w : World} {ps : List Pc} {sh : Int} {D : TB} {cb : Nat} {c : Cr} {q : Int} {e : Ending} {w1 w2 : World} (h : DelR w0 w ps sh D cb c q e w1) (k : Same w1 w2) : DelR w0 w ps sh D cb c q e w2 := by
  obtain ⟨c', M', q1, he, h0, hA, hS⟩ := h
  exact ⟨c', M', q1, he, h0, ⟨hA.cur.same k, hA.rev, hA.root, hA.stk, hA.rdy, hA.pc, hA.sq, hA.bd⟩, hS.same k⟩

theorem withinR_ask {w0 w : World} {ps : List Pc} {sh : Int} {D : TB} (hT : Tr w0 ps sh D) {cb : Nat} {c : Cr} {M : List Nat} {q0 q : Int} (hA : AskR w0 w ps sh D cb c M q0) (hq : q ≤ q0) (h0 : 0 ≤ q) (h1 : q ≤ 4294967295)
    {a : Option Addr} {n kc : Nat} (hK : KeyIn w a n (enc q)) :
    ∃ W : Bool, (Calls Try.prog 37 #[.pointer (some ⟨cb, 0, none⟩), .slice a n kc] w fun e w' => e = .returned (.bool W) ∧ w' = w) ∧ (W = true → ans ps q = ans ps q0) := by
  have hle := cut_le ps q0
  have hmono := cut_mono hT.good hq
  have hbd := hA.bd
  unfold boundR at hbd
  by_cases hpos : 0 < cut ps q0
  · rw [if_pos hpos] at hbd
    obtain ⟨L, R, hf⟩ := hT.frag (i := cut ps q0 - 1) (by omega)
    have hf2 := hf.below hA.cur.bel
    have hgp := hT.good.pos (cut ps q0 - 1) (by omega)
    have hup : cut ps q0 = ps.length ∨ q < lo ps (cut ps q0) := by
      rcases Nat.lt_or_ge (cut ps q0) ps.length with g | g
      · right
        have := cut_iff ps hT.good q0 (cut ps q0) g
        have : ¬ lo ps (cut ps q0) ≤ q0 := fun e => by have := this.1 e; omega
        omega
      · left; omega
    by_cases hin : q0 < hi ps (cut ps q0 - 1)
    · rw [if_pos hin] at hbd
      refine ⟨_, within_rev hA.cur.blk hbd hA.rev (frag_start hf2 hT.good (by omega)) hK, fun hw => ?_⟩
      have hge : lo ps (cut ps q0 - 1) ≤ q := by
        have h := cmp_lt q (lo ps (cut ps q0 - 1)) h0 h1 (by omega) (by omega)
        have hw' : 0 ≤ cmpL (enc q) (enc (lo ps (cut ps q0 - 1))) := by simpa using hw
        have : ¬ q < lo ps (cut ps q0 - 1) := fun e => by have := h.2 e; omega
        omega
      have hc : cut ps q = cut ps q0 := cut_unique hT.good hle (Or.inr hge) hup
      unfold ans
      rw [hc, if_pos ⟨hpos, by omega⟩, if_pos ⟨hpos, hin⟩]
    · rw [if_neg hin] at hbd
      refine ⟨_, within_rev hA.cur.blk hbd hA.rev (frag_end hf2 hT.good (by omega)) hK, fun hw => ?_⟩
      have hge : hi ps (cut ps q0 - 1) ≤ q := by
        have h := cmp_lt q (hi ps (cut ps q0 - 1)) h0 h1 (by omega) (by omega)
        have hw' : 0 ≤ cmpL (enc q) (enc (hi ps (cut ps q0 - 1))) := by simpa using hw
        have : ¬ q < hi ps (cut ps q0 - 1) := fun e => by have := h.2 e; omega
        omega
      have hc : cut ps q = cut ps q0 := cut_unique hT.good hle (Or.inr (by omega)) hup
      unfold ans
      rw [hc, if_neg (by rintro ⟨_, e⟩; omega), if_neg (by rintro ⟨_, e⟩; omega)]
  · rw [if_neg hpos] at hbd
    refine ⟨true, within_nil hA.cur.blk hbd a n kc, fun _ => ?_⟩
    unfold ans
    rw [if_neg (by rintro ⟨e, _⟩; omega), if_neg (by rintro ⟨e, _⟩; omega)]

set_option maxHeartbeats 4000000 in
set_option maxRecDepth 100000 in
theorem delR_within {w0 w : World} {ps : List Pc} {sh : Int} {D : TB} {cb : Nat} {c : Cr} {M : List Nat} {q0 q : Int} (hA : AskR w0 w ps sh D cb c M q0) (hq : q ≤ q0)
    {a : Option Addr} {n kc : Nat} (hw : Calls Try.prog 37 #[.pointer (some ⟨cb, 0, none⟩), .slice a n kc] w fun e w' => e = .returned (.bool true) ∧ w' = w) (he : ans ps q = ans ps q0) :
    Calls Try.prog 34 #[.pointer (some ⟨cb, 0, none⟩), .slice a n kc] w (DelR w0 w ps sh D cb c q) := by
  have hcb := hA.cur.blk
  have k3 : w.cell? ⟨cb, 3, none⟩ = some (.bool true) := by have := hcb.cell 3; rw [← hA.rdy]; exact this
  have k5 : w.cell? ⟨cb, 5, none⟩ = some (.int .u64 (ans ps q)) := by have := hcb.cell 5; rw [he, ← hA.sq]; exact this
  have HW := hide hw
  have hfin : Hid (DelR w0 w ps sh D cb c q (.returned (.int .u64 (ans ps q))) w) := ⟨c, M, q0, rfl, hq, hA, CStep.refl _ _ _⟩
  clear hw hA hcb he
  go_enter Try.func34, Try.ntmps34
  go_wp2_with fail
  refine HW.out.mono ?_
  rintro e w2 ⟨rfl, rfl⟩
  go_wp2
  go_ret
  exact hfin.out

/-- The cursor stands behind the first K pieces, in reverse. -/
def MovR (w0 w : World) (ps : List Pc) (sh : Int) (D : TB) (cb : Nat) (c : Cr) (K : Nat) (wt : World) : Prop :=
  ∃ v M, CurIn w0 wt D cb { c with v := v, rdy := true, pc := found D K } M ∧ Rev w0 ps sh D 0 M (K - 1) ∧ CStep w wt cb c { c with v := v, rdy := true, pc := found D K }

set_option maxHeartbeats 8000000 in
set_option maxRecDepth 100000 in
theorem delR_ready {w0 w : World} {ps : List Pc} {sh : Int} {D : TB} (hT : Tr w0 ps sh D) {cb : Nat} {c : Cr} {q : Int} {K0 : Nat} {M0 : List Nat} (hC : CurIn w0 w D cb c M0) (hF : Rev w0 ps sh D 0 M0 (K0 - 1)) (hpc : c.pc = found D K0) (hrdy : c.rdy = true) (hK0 : cut ps q ≤ K0) (hK0' : K0 ≤ ps.length)
    (hrev : c.rev = true) (hroot : c.root = ptrB (rootp sh D 0 ps.length)) (h0 : 0 ≤ q) (h1 : q ≤ 4294967295)
    {a : Option Addr} {n kc : Nat} (hK : KeyB w a n (enc q)) (hw : Calls Try.prog 37 #[.pointer (some ⟨cb, 0, none⟩), .slice a n kc] w fun e w' => e = .returned (.bool false) ∧ w' = w) :
    Calls Try.prog 34 #[.pointer (some ⟨cb, 0, none⟩), .slice a n kc] w (DelR w0 w ps sh D cb c q) := by
  have hcb := hC.blk
  have k3 := cur_rdy hcb hrdy
  have k1 := cur_rev hcb hrev
  have hst : Hid (∃ K1, cut ps q ≤ K1 ∧ K1 ≤ ps.length ∧ MovR w0 w ps sh D cb c K1 w) := by
    refine ⟨K0, hK0, hK0', c.v, M0, ?_, hF, ?_⟩
    · rw [← hpc, ← hrdy]; exact hC
    · rw [← hpc, ← hrdy]; exact CStep.refl _ _ _
  have HW := hide hw
  have HT := hide hT
  have HKB := hide hK
  have HCR := hide hC
  have HREV := hide hrev
  have HROOT := hide hroot
  have hcl := cut_le ps q
  have HCI := hide (cut_iff ps hT.good q)
  obtain ⟨KK, hKK⟩ : ∃ KK, KK = cut ps q := ⟨_, rfl⟩
  have HKK := hide hKK
  rw [← hKK] at hcl hst HCI
  clear hw hT hK hC hF hpc hrdy hrev hroot hcb hK0 hK0' hKK
  go_enter Try.func34, Try.ntmps34
  go_wp2_with fail
  refine HW.out.mono ?_
  rintro e w2 ⟨rfl, rfl⟩
  go_upto_if 23 with fail
  go_cut [5] (fun _ wt => MovR w0 w2 ps sh D cb c KK wt)
  case first =>
    obtain ⟨K1, hK1, hK1N, v0, M0, hCx, hFx, hSx⟩ := hst.out
    have HCx := hide hCx
    have HFx := hide hFx
    have HSx := hide hSx
    clear hCx hFx hSx hst HW
    go_wp2_with fail
    go_loopg [] K1 (fun k wr => ∃ (K2 : Nat) (v : Value) (M : List Nat), K2 ≤ k ∧ KK ≤ K2 ∧ K2 ≤ ps.length ∧ CurIn w0 wr D cb { c with v := v, rdy := true, pc := found D K2 } M ∧ Rev w0 ps sh D 0 M (K2 - 1) ∧ CStep w2 wr cb c { c with v := v, rdy := true, pc := found D K2 })
    case atStart => exact ⟨K1, v0, M0, by omega, hK1, hK1N, HCx.out, HFx.out, HSx.out⟩
    case round =>
      obtain ⟨K2, v, M, hk, hK2, hK2N, hCx, hFx, hSx⟩ := hrel
      clear HCx HFx HSx k1 k3
      have HCx := hide hCx
      have HFx := hide hFx
      have HSx := hide hSx
      have HKx := hide (HKB.out.step HCR.out hSx)
      clear hCx hFx hSx
      rcases K2 with _ | j
      · have he2 : 0 = KK := by omega
        subst he2
        have j4 := cur_pc HCx.out.blk (found_zero D)
        go_wp2
        go_meet
        case rel => exact ⟨v, M, HCx.out, HFx.out, HSx.out⟩
      · have j4 := cur_pc HCx.out.blk (found_succ D j)
        have hsm := HT.out.small
        obtain ⟨L, R, hfr⟩ := HT.out.frag (i := j) (by omega)
        have hf2 := hfr.below HCx.out.bel
        have n0 : wr.cell? ⟨D.blk j, 0, none⟩ = some (.slice (some ⟨D.sb j, 0, none⟩) (enc (lo ps j)).length (enc (lo ps j)).length) := hf2.node.cell 0
        have hks := hide (frag_start hf2 HT.out.good (by omega))
        have hkk := hide HKx.out.keyIn
        have hiff := HCI.out j (by omega)
        have hgp := HT.out.good.pos j (by omega)
        have hcmp := cmp_lt q (lo ps j) h0 h1 (by omega) (by omega)
        clear hfr hf2 hgp
        by_cases hlt : j < KK
        · have hz : ¬ cmpL (enc q) (enc (lo ps j)) < 0 := fun e => by have e1 := hcmp.1 e; have e2 := hiff.2 hlt; omega
          have he2 : j + 1 = KK := by omega
          subst he2
          clear hcmp hiff
          go_wp2_with fail
          refine (compare_any hkk.out hks.out).mono ?_
          rintro e w3 ⟨rfl, rfl⟩
          generalize cmpL (enc q) (enc (lo ps j)) = z at hz
          go_wp2
          go_meet
          case rel => exact ⟨v, M, HCx.out, HFx.out, HSx.out⟩
        · have hz : cmpL (enc q) (enc (lo ps j)) < 0 := hcmp.2 (by have : ¬ lo ps j ≤ q := fun e => hlt (hiff.1 e); omega)
          have hpop : Hid (Calls Try.prog 33 #[.pointer (some ⟨cb, 0, none⟩)] wr fun e w' => ∃ v' M', e = .returned (found D j) ∧ CurIn w0 w' D cb { c with v := v', rdy := true, pc := found D (j + 1) } M' ∧ Rev w0 ps sh D 0 M' (j - 1) ∧ CStep wr w' cb { c with v := v, rdy := true, pc := found D (j + 1) } { c with v := v', rdy := true, pc := found D (j + 1) }) := by
            rcases M.eq_nil_or_concat with hM | ⟨M1, m, hM⟩
            · subst hM
              have hj0 : j = 0 := HFx.out
              subst hj0
              refine (pop_empty HCx.out).mono ?_
              rintro e w' ⟨rfl, rfl⟩
              exact ⟨v, [], rfl, HCx.out, rfl, CStep.refl _ _ _⟩
            · rw [List.concat_eq_append] at hM
              subst hM
              obtain ⟨hcm, _⟩ := HFx.out.top
              have hcm' : j = m + 1 := hcm
              subst hcm'
              refine (pop_rev HT.out HCx.out HFx.out (by omega) HREV.out).mono ?_
              rintro e w' ⟨v', M', rfl, hC', hR', hS'⟩
              exact ⟨v', M', rfl, hC', hR', hS'⟩
          clear hcmp hiff
          go_wp2_with fail
          refine (compare_any hkk.out hks.out).mono ?_
          rintro e w3 ⟨rfl, rfl⟩
          generalize cmpL (enc q) (enc (lo ps j)) = z at hz
          go_wp2_with fail
          refine hpop.out.mono ?_
          rintro e w4 ⟨v', M', rfl, hC', hF', hS'⟩
          have kf := hC'.blk.free
          obtain ⟨x4, k4⟩ : ∃ x, w4.cell? ⟨cb, 4, none⟩ = some x := ⟨_, hC'.blk.cell 4⟩
          obtain ⟨F, hFo⟩ := found_ptr D j
          have hC5 : Hid (CurIn w0 (w4.setCell ⟨cb, 4, none⟩ (found D j)) D cb { c with v := v', rdy := true, pc := found D j } M') := hC'.set 4 _ rfl rfl
          have hS5 : Hid (CStep w2 (w4.setCell ⟨cb, 4, none⟩ (found D j)) cb c { c with v := v', rdy := true, pc := found D j }) := HSx.out.trans (hS'.trans (CStep.set 4 _ rfl))
          have HF5 := hide hF'
          have HFO := hide hFo
          clear hC' hF' hS' j4 n0 hpop
          rw [hFo]
          clear hFo
          go_wp2
          go_roundg j
          case measure => omega
          case rel => exact ⟨j, v', M', by omega, by omega, by omega, by have := hC5.out; rw [← HFO.out]; exact this, HF5.out, by have := hS5.out; rw [← HFO.out]; exact this⟩
  case rest =>
    have HCUT := hide hcut
    clear hcut
    clear k1 k3 hst HW HCI
    obtain ⟨v, M, hCx, hFx, hSx⟩ := HCUT.out
    have kf := hCx.blk.free
    obtain ⟨F, hF⟩ := found_ptr D KK
    have k4 := cur_pc hCx.blk hF
    have k1 := cur_rev hCx.blk HREV.out
    have k5 := cur_sq hCx.blk
    have k6 := cur_bd hCx.blk
    have HC2 : Hid (CurIn w0 ((wc.setCell ⟨cb, 5, none⟩ (.int .u64 0)).setCell ⟨cb, 6, none⟩ (.slice none 0 0)) D cb { c with v := v, rdy := true, pc := found D KK, sq := 0, bd := .slice none 0 0 } M) :=
      hCx.tail 0 _
    have HS2 : Hid (CStep w2 ((wc.setCell ⟨cb, 5, none⟩ (.int .u64 0)).setCell ⟨cb, 6, none⟩ (.slice none 0 0)) cb c { c with v := v, rdy := true, pc := found D KK, sq := 0, bd := .slice none 0 0 }) :=
      hSx.tail 0 _
    have HK2 := hide (HKB.out.step HCR.out HS2.out)
    have HF := hide hFx
    have HFO := hide hF
    generalize c.sq = sq0 at k5
    generalize c.bd = bd0 at k6
    have HCx := hide hCx
    clear hCx hFx hSx HCUT hF HKB
    rcases KK with _ | i
    · have hF0 : F = none := by have := HFO.out; rw [found_zero] at this; simp at this; exact this.symm
      subst hF0
      have hans : Hid (ans ps q = 0) := by show ans ps q = 0; unfold ans; rw [if_neg]; rw [← HKK.out]; omega
      have hfin : Hid (DelR w0 w2 ps sh D cb c q (.returned (.int .u64 0)) ((wc.setCell ⟨cb, 5, none⟩ (.int .u64 0)).setCell ⟨cb, 6, none⟩ (.slice none 0 0))) := by
        refine ⟨_, M, q, by rw [hans.out], Int.le_refl _, ⟨HC2.out, HREV.out, HROOT.out, by rw [← HKK.out]; exact HF.out, rfl, by rw [← HKK.out], hans.out.symm, ?_⟩, HS2.out⟩
        unfold boundR; rw [← HKK.out, if_neg (by omega)]
      go_wp2
      go_ret
      exact hfin.out
    · have hFi : F = some ⟨D.blk i, 0, none⟩ := by have := HFO.out; rw [found_succ] at this; simp at this; exact this.symm
      subst hFi
      obtain ⟨L, R, hfr⟩ := HT.out.frag (i := i) (by omega)
      have hf2 := hfr.below HC2.out.bel
      have hnd := (hfr.below HCx.out.bel).node
      have n1 : wc.cell? ⟨D.blk i, 1, none⟩ = some (.slice (some ⟨D.eb i, 0, none⟩) (enc (hi ps i)).length (enc (hi ps i)).length) := hnd.cell 1
      have hne : cb ≠ D.blk i := fun e => HC2.out.blk.ne hf2.node (by decide) e
      have n0' : ((wc.setCell ⟨cb, 5, none⟩ (.int .u64 0)).setCell ⟨cb, 6, none⟩ (.slice none 0 0)).cell? ⟨D.blk i, 0, none⟩ = some (.slice (some ⟨D.sb i, 0, none⟩) (enc (lo ps i)).length (enc (lo ps i)).length) := hf2.node.cell 0
      have n1' : ((wc.setCell ⟨cb, 5, none⟩ (.int .u64 0)).setCell ⟨cb, 6, none⟩ (.slice none 0 0)).cell? ⟨D.blk i, 1, none⟩ = some (.slice (some ⟨D.eb i, 0, none⟩) (enc (hi ps i)).length (enc (hi ps i)).length) := hf2.node.cell 1
      have n2' : ((wc.setCell ⟨cb, 5, none⟩ (.int .u64 0)).setCell ⟨cb, 6, none⟩ (.slice none 0 0)).cell? ⟨D.blk i, 2, none⟩ = some (.int .u64 (sq ps i)) := hf2.node.cell 2
      have N0 := hide n0'
      have N1 := hide n1'
      have N2 := hide n2'
      have hke := hide (frag_end hf2 HT.out.good (by omega))
      have hkk := hide HK2.out.keyIn
      have hgp := HT.out.good.pos i (by omega)
      have hlt := cmp_lt q (hi ps i) h0 h1 (by omega) (by omega)
      clear hfr hf2 hgp hnd n0' n1' n2'
      by_cases hq : q < hi ps i
      · have hz := hlt.2 hq
        clear hlt
        have hans : Hid (ans ps q = sq ps i) := by show ans ps q = sq ps i; unfold ans; rw [← HKK.out, if_pos ⟨by omega, by simpa using hq⟩]; rfl
        have HBD : Hid (boundR ps D q = keyV (D.sb i) (lo ps i)) := by show boundR ps D q = _; unfold boundR; rw [← HKK.out, if_pos (by omega), if_pos (by simpa using hq)]; rfl
        go_wp2_with fail
        refine (compare_any hkk.out hke.out).mono ?_
        rintro e w3 ⟨rfl, hw3⟩
        generalize cmpL (enc q) (enc (hi ps i)) = z at hz
        rw [← hw3] at HC2 HS2 N0 N1 N2
        have n0 := N0.out
        have n1 := N1.out
        have n2 := N2.out
        have kf := HC2.out.blk.free
        have k4 := cur_pc HC2.out.blk HFO.out
        have k1 := cur_rev HC2.out.blk HREV.out
        have k5 := cur_sq HC2.out.blk
        have k6 := cur_bd HC2.out.blk
        simp only at k5 k6
        have hfin : Hid (DelR w0 w2 ps sh D cb c q (.returned (.int .u64 (sq ps i))) (((w3.setCell ⟨cb, 5, none⟩ (.int .u64 (sq ps i))).setCell ⟨cb, 6, none⟩ (.slice (some ⟨D.eb i, 0, none⟩) (enc (hi ps i)).length (enc (hi ps i)).length)).setCell ⟨cb, 6, none⟩ (.slice (some ⟨D.sb i, 0, none⟩) (enc (lo ps i)).length (enc (lo ps i)).length))) := by
          refine ⟨_, _, q, by rw [hans.out], Int.le_refl _, ⟨(HC2.out.tail (sq ps i) (keyV (D.eb i) (hi ps i))).set (c' := { c with v := v, rdy := true, pc := found D (i + 1), sq := sq ps i, bd := keyV (D.sb i) (lo ps i) }) 6 _ rfl rfl, HREV.out, HROOT.out, by rw [← HKK.out]; exact HF.out, rfl, by rw [← HKK.out], hans.out.symm, ?_⟩, (HS2.out.tail _ _).trans (CStep.set 6 _ rfl)⟩
          exact HBD.out.symm
        clear hw3
        generalize (enc (hi ps i)).length = ln at n1 hfin
        generalize (enc (lo ps i)).length = ln0 at n0 hfin
        go_wp2
        go_region
        all_goals (try go_wp2)
        all_goals
          go_ret
          exact hfin.out.same (Same.refl _).drew
      · have hz : ¬ cmpL (enc q) (enc (hi ps i)) < 0 := fun e => hq (hlt.1 e)
        clear hlt N0 N2
        have hans : Hid (ans ps q = 0) := by show ans ps q = 0; unfold ans; rw [← HKK.out, if_neg (fun e => hq (by simpa using e.2))]
        have HBD : Hid (boundR ps D q = keyV (D.eb i) (hi ps i)) := by show boundR ps D q = _; unfold boundR; rw [← HKK.out, if_pos (by omega), if_neg (fun e => hq (by simpa using e))]; rfl
        go_wp2_with fail
        refine (compare_any hkk.out hke.out).mono ?_
        rintro e w3 ⟨rfl, hw3⟩
        generalize cmpL (enc q) (enc (hi ps i)) = z at hz
        rw [← hw3] at HC2 HS2 N1
        have n1 := N1.out
        have kf := HC2.out.blk.free
        have k4 := cur_pc HC2.out.blk HFO.out
        have k1 := cur_rev HC2.out.blk HREV.out
        have k5 := cur_sq HC2.out.blk
        have k6 := cur_bd HC2.out.blk
        simp only at k5 k6
        have hfin : Hid (DelR w0 w2 ps sh D cb c q (.returned (.int .u64 0)) (w3.setCell ⟨cb, 6, none⟩ (.slice (some ⟨D.eb i, 0, none⟩) (enc (hi ps i)).length (enc (hi ps i)).length))) := by
          refine ⟨_, _, q, by rw [hans.out], Int.le_refl _, ⟨HC2.out.set (c' := { c with v := v, rdy := true, pc := found D (i + 1), sq := 0, bd := keyV (D.eb i) (hi ps i) }) 6 _ rfl rfl, HREV.out, HROOT.out, by rw [← HKK.out]; exact HF.out, rfl, by rw [← HKK.out], hans.out.symm, ?_⟩, HS2.out.trans (CStep.set 6 _ rfl)⟩
          exact HBD.out.symm
        clear hw3
        generalize (enc (hi ps i)).length = ln at n1 hfin
        go_wp2
        go_ret
        exact hfin.out

set_option maxHeartbeats 8000000 in
set_option maxRecDepth 100000 in
theorem delR_first {w0 w2 : World} {ps : List Pc} {sh : Int} {D : TB} (hT : Tr w0 ps sh D) {cb : Nat} {c : Cr} {q : Int} {M0 : List Nat} (hC : CurIn w0 w2 D cb c M0) (hrdy : c.rdy = false)
    (hrev : c.rev = true) (hroot : c.root = ptrB (rootp sh D 0 ps.length)) (h0 : 0 ≤ q) (h1 : q ≤ 4294967295)
    {a : Option Addr} {n kc : Nat} (hK : KeyB w2 a n (enc q)) :
    Calls Try.prog 34 #[.pointer (some ⟨cb, 0, none⟩), .slice a n kc] w2 (DelR w0 w2 ps sh D cb c q) := by
  have hcb := hC.blk
  have k3 := cur_rdy hcb hrdy
  have hsk := hide (seek_rev (kc := kc) hT hC hrev hroot hK (cuts_enc hT.good h0 h1))
  have HT := hide hT
  have HKB := hide hK
  have HCR := hide hC
  have HREV := hide hrev
  have HROOT := hide hroot
  have hcl := cut_le ps q
  obtain ⟨KK, hKK⟩ : ∃ KK, KK = cut ps q := ⟨_, rfl⟩
  have HKK := hide hKK
  rw [← hKK] at hcl hsk
  clear hT hK hC hrdy hrev hroot hcb hKK
  go_enter Try.func34, Try.ntmps34
  go_upto_if 23 with fail
  go_cut [5] (fun _ wt => MovR w0 w2 ps sh D cb c KK wt)
  case first =>
    go_wp2_with fail
    refine hsk.out.mono ?_
    rintro e w3 ⟨v', M', rfl, hC', hF', hS'⟩
    have kf := hC'.blk.free
    obtain ⟨x4, k4⟩ : ∃ x, w3.cell? ⟨cb, 4, none⟩ = some x := ⟨_, hC'.blk.cell 4⟩
    obtain ⟨x3, k3'⟩ : ∃ x, w3.cell? ⟨cb, 3, none⟩ = some x := ⟨_, hC'.blk.cell 3⟩
    have hm : Hid (MovR w0 w2 ps sh D cb c KK ((w3.setCell ⟨cb, 4, none⟩ (found D KK)).setCell ⟨cb, 3, none⟩ (.bool true))) :=
      ⟨v', M', (hC'.set (c' := { c with v := v', pc := found D KK }) 4 _ rfl rfl).set 3 _ rfl rfl, hF', (hS'.trans (CStep.set (c' := { c with v := v', pc := found D KK }) 4 _ rfl)).trans (CStep.set 3 _ rfl)⟩
    clear hC' hF' hS'
    obtain ⟨F, hF⟩ := found_ptr D KK
    rw [hF] at hm ⊢
    clear hF
    go_wp2
    go_meet
    case rel => exact hm.out
  case rest =>
    have HCUT := hide hcut
    clear hcut
    clear k3 hsk
    obtain ⟨v, M, hCx, hFx, hSx⟩ := HCUT.out
    have kf := hCx.blk.free
    obtain ⟨F, hF⟩ := found_ptr D KK
    have k4 := cur_pc hCx.blk hF
    have k1 := cur_rev hCx.blk HREV.out
    have k5 := cur_sq hCx.blk
    have k6 := cur_bd hCx.blk
    have HC2 : Hid (CurIn w0 ((wc.setCell ⟨cb, 5, none⟩ (.int .u64 0)).setCell ⟨cb, 6, none⟩ (.slice none 0 0)) D cb { c with v := v, rdy := true, pc := found D KK, sq := 0, bd := .slice none 0 0 } M) :=
      hCx.tail 0 _
    have HS2 : Hid (CStep w2 ((wc.setCell ⟨cb, 5, none⟩ (.int .u64 0)).setCell ⟨cb, 6, none⟩ (.slice none 0 0)) cb c { c with v := v, rdy := true, pc := found D KK, sq := 0, bd := .slice none 0 0 }) :=
      hSx.tail 0 _
    have HK2 := hide (HKB.out.step HCR.out HS2.out)
    have HF := hide hFx
    have HFO := hide hF
    generalize c.sq = sq0 at k5
    generalize c.bd = bd0 at k6
    have HCx := hide hCx
    clear hCx hFx hSx HCUT hF HKB
    rcases KK with _ | i
    · have hF0 : F = none := by have := HFO.out; rw [found_zero] at this; simp at this; exact this.symm
      subst hF0
      have hans : Hid (ans ps q = 0) := by show ans ps q = 0; unfold ans; rw [if_neg]; rw [← HKK.out]; omega
      have hfin : Hid (DelR w0 w2 ps sh D cb c q (.returned (.int .u64 0)) ((wc.setCell ⟨cb, 5, none⟩ (.int .u64 0)).setCell ⟨cb, 6, none⟩ (.slice none 0 0))) := by
        refine ⟨_, M, q, by rw [hans.out], Int.le_refl _, ⟨HC2.out, HREV.out, HROOT.out, by rw [← HKK.out]; exact HF.out, rfl, by rw [← HKK.out], hans.out.symm, ?_⟩, HS2.out⟩
        unfold boundR; rw [← HKK.out, if_neg (by omega)]
      go_wp2
      go_ret
      exact hfin.out
    · have hFi : F = some ⟨D.blk i, 0, none⟩ := by have := HFO.out; rw [found_succ] at this; simp at this; exact this.symm
      subst hFi
      obtain ⟨L, R, hfr⟩ := HT.out.frag (i := i) (by omega)
      have hf2 := hfr.below HC2.out.bel
      have hnd := (hfr.below HCx.out.bel).node
      have n1 : wc.cell? ⟨D.blk i, 1, none⟩ = some (.slice (some ⟨D.eb i, 0, none⟩) (enc (hi ps i)).length (enc (hi ps i)).length) := hnd.cell 1
      have hne : cb ≠ D.blk i := fun e => HC2.out.blk.ne hf2.node (by decide) e
      have n0' : ((wc.setCell ⟨cb, 5, none⟩ (.int .u64 0)).setCell ⟨cb, 6, none⟩ (.slice none 0 0)).cell? ⟨D.blk i, 0, none⟩ = some (.slice (some ⟨D.sb i, 0, none⟩) (enc (lo ps i)).length (enc (lo ps i)).length) := hf2.node.cell 0
      have n1' : ((wc.setCell ⟨cb, 5, none⟩ (.int .u64 0)).setCell ⟨cb, 6, none⟩ (.slice none 0 0)).cell? ⟨D.blk i, 1, none⟩ = some (.slice (some ⟨D.eb i, 0, none⟩) (enc (hi ps i)).length (enc (hi ps i)).length) := hf2.node.cell 1
      have n2' : ((wc.setCell ⟨cb, 5, none⟩ (.int .u64 0)).setCell ⟨cb, 6, none⟩ (.slice none 0 0)).cell? ⟨D.blk i, 2, none⟩ = some (.int .u64 (sq ps i)) := hf2.node.cell 2
      have N0 := hide n0'
      have N1 := hide n1'
      have N2 := hide n2'
      have hke := hide (frag_end hf2 HT.out.good (by omega))
      have hkk := hide HK2.out.keyIn
      have hgp := HT.out.good.pos i (by omega)
      have hlt := cmp_lt q (hi ps i) h0 h1 (by omega) (by omega)
      clear hfr hf2 hgp hnd n0' n1' n2'
      by_cases hq : q < hi ps i
      · have hz := hlt.2 hq
        clear hlt
        have hans : Hid (ans ps q = sq ps i) := by show ans ps q = sq ps i; unfold ans; rw [← HKK.out, if_pos ⟨by omega, by simpa using hq⟩]; rfl
        have HBD : Hid (boundR ps D q = keyV (D.sb i) (lo ps i)) := by show boundR ps D q = _; unfold boundR; rw [← HKK.out, if_pos (by omega), if_pos (by simpa using hq)]; rfl
        go_wp2_with fail
        refine (compare_any hkk.out hke.out).mono ?_
        rintro e w3 ⟨rfl, hw3⟩
        generalize cmpL (enc q) (enc (hi ps i)) = z at hz
        rw [← hw3] at HC2 HS2 N0 N1 N2
        have n0 := N0.out
        have n1 := N1.out
        have n2 := N2.out
        have kf := HC2.out.blk.free
        have k4 := cur_pc HC2.out.blk HFO.out
        have k1 := cur_rev HC2.out.blk HREV.out
        have k5 := cur_sq HC2.out.blk
        have k6 := cur_bd HC2.out.blk
        simp only at k5 k6
        have hfin : Hid (DelR w0 w2 ps sh D cb c q (.returned (.int .u64 (sq ps i))) (((w3.setCell ⟨cb, 5, none⟩ (.int .u64 (sq ps i))).setCell ⟨cb, 6, none⟩ (.slice (some ⟨D.eb i, 0, none⟩) (enc (hi ps i)).length (enc (hi ps i)).length)).setCell ⟨cb, 6, none⟩ (.slice (some ⟨D.sb i, 0, none⟩) (enc (lo ps i)).length (enc (lo ps i)).length))) := by
          refine ⟨_, _, q, by rw [hans.out], Int.le_refl _, ⟨(HC2.out.tail (sq ps i) (keyV (D.eb i) (hi ps i))).set (c' := { c with v := v, rdy := true, pc := found D (i + 1), sq := sq ps i, bd := keyV (D.sb i) (lo ps i) }) 6 _ rfl rfl, HREV.out, HROOT.out, by rw [← HKK.out]; exact HF.out, rfl, by rw [← HKK.out], hans.out.symm, ?_⟩, (HS2.out.tail _ _).trans (CStep.set 6 _ rfl)⟩
          exact HBD.out.symm
        clear hw3
        generalize (enc (hi ps i)).length = ln at n1 hfin
        generalize (enc (lo ps i)).length = ln0 at n0 hfin
        go_wp2
        go_region
        all_goals (try go_wp2)
        all_goals
          go_ret
          exact hfin.out.same (Same.refl _).drew
      · have hz : ¬ cmpL (enc q) (enc (hi ps i)) < 0 := fun e => hq (hlt.1 e)
        clear hlt N0 N2
        have hans : Hid (ans ps q = 0) := by show ans ps q = 0; unfold ans; rw [← HKK.out, if_neg (fun e => hq (by simpa using e.2))]
        have HBD : Hid (boundR ps D q = keyV (D.eb i) (hi ps i)) := by show boundR ps D q = _; unfold boundR; rw [← HKK.out, if_pos (by omega), if_neg (fun e => hq (by simpa using e))]; rfl
        go_wp2_with fail
        refine (compare_any hkk.out hke.out).mono ?_
        rintro e w3 ⟨rfl, hw3⟩
        generalize cmpL (enc q) (enc (hi ps i)) = z at hz
        rw [← hw3] at HC2 HS2 N1
        have n1 := N1.out
        have kf := HC2.out.blk.free
        have k4 := cur_pc HC2.out.blk HFO.out
        have k1 := cur_rev HC2.out.blk HREV.out
        have k5 := cur_sq HC2.out.blk
        have k6 := cur_bd HC2.out.blk
        simp only at k5 k6
        have hfin : Hid (DelR w0 w2 ps sh D cb c q (.returned (.int .u64 0)) (w3.setCell ⟨cb, 6, none⟩ (.slice (some ⟨D.eb i, 0, none⟩) (enc (hi ps i)).length (enc (hi ps i)).length))) := by
          refine ⟨_, _, q, by rw [hans.out], Int.le_refl _, ⟨HC2.out.set (c' := { c with v := v, rdy := true, pc := found D (i + 1), sq := 0, bd := keyV (D.eb i) (hi ps i) }) 6 _ rfl rfl, HREV.out, HROOT.out, by rw [← HKK.out]; exact HF.out, rfl, by rw [← HKK.out], hans.out.symm, ?_⟩, HS2.out.trans (CStep.set 6 _ rfl)⟩
          exact HBD.out.symm
        clear hw3
        generalize (enc (hi ps i)).length = ln at n1 hfin
        go_wp2
        go_ret
        exact hfin.out

/-- The deletion of q, the cursor in reverse. -/
theorem delR_any {w0 w : World} {ps : List Pc} {sh : Int} {D : TB} (hT : Tr w0 ps sh D) {cb : Nat} {c : Cr} {M : List Nat} {q : Int} (h : (∃ q0, AskR w0 w ps sh D cb c M q0 ∧ q ≤ q0) ∨ (CurIn w0 w D cb c M ∧ c.rdy = false ∧ c.rev = true ∧ c.root = ptrB (rootp sh D 0 ps.length))) (h0 : 0 ≤ q) (h1 : q ≤ 4294967295)
    {a : Option Addr} {n kc : Nat} (hK : KeyB w a n (enc q)) :
    Calls Try.prog 34 #[.pointer (some ⟨cb, 0, none⟩), .slice a n kc] w (DelR w0 w ps sh D cb c q) := by
  rcases h with ⟨q0, hA, hq⟩ | ⟨hC, hr, hv, hro⟩
  · obtain ⟨W, hW, hans⟩ := withinR_ask (kc := kc) hT hA hq h0 h1 hK.keyIn
    cases W with
    | true => exact delR_within hA hq hW (hans rfl)
    | false => exact delR_ready hT hA.cur hA.stk hA.pc hA.rdy (cut_mono hT.good hq) (cut_le _ _) hA.rev hA.root h0 h1 hK hW
  · exact delR_first hT hC hr hv hro h0 h1 hK

/-- .. forward. -/
theorem delF_any {w0 w : World} {ps : List Pc} {sh : Int} {D : TB} (hT : Tr w0 ps sh D) {cb : Nat} {c : Cr} {M : List Nat} {q : Int} (h : (∃ q0, 0 ≤ q0 ∧ AskF w0 w ps sh D cb c M q0 ∧ q0 ≤ q) ∨ (CurIn w0 w D cb c M ∧ c.rdy = false ∧ c.rev = false ∧ c.root = ptrB (rootp sh D 0 ps.length))) (h0 : 0 ≤ q) (h1 : q ≤ 4294967295)
    {a : Option Addr} {n kc : Nat} (hK : KeyB w a n (enc q)) :
    Calls Try.prog 34 #[.pointer (some ⟨cb, 0, none⟩), .slice a n kc] w (DelF w0 w ps sh D cb c q) := by
  rcases h with ⟨q0, h00, hA, hq⟩ | ⟨hC, hr, hv, hro⟩
  · obtain ⟨W, hW, hans⟩ := withinF_ask (kc := kc) hT hA hq h0 h1 hK.keyIn
    cases W with
    | true => exact delF_within hA h00 hq hW (hans rfl)
    | false => exact delF_ready hT hA.cur hA.stk hA.pc hA.rdy (cut_mono hT.good hq) hA.rev hA.root h0 h1 hK hW
  · exact delF_first hT hC hr hv hro h0 h1 hK

end Go.Proofs.Qxb6000727a
