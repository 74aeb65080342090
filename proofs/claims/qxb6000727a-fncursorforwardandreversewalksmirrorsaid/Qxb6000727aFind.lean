/-
  within (37), (*fragment).find (38), (*fragment).deletion (35), the shim's one-liners.
-/
import Derived.Test.Qxb6000727aSeek
set_option linter.unusedSimpArgs false
set_option linter.unusedVariables false
namespace Go.Proofs.Qxb6000727a
open Go.RowKit

theorem Tree.frag {w : World} {ps : List Pc} {sh : Int} {D : TB} : ∀ (f l h : Nat), Tree w ps sh D f l h → h - l ≤ f → ∀ i, l ≤ i → i < h → ∃ L R, Frag w ps D i L R
  | 0, l, h, t, hf, i, h1, h2 => by omega
  | f + 1, l, h, t, hf, i, h1, h2 => by
    obtain ⟨t1, t2, t3⟩ := t (by omega)
    have g1 := mid_ge sh l h
    have g2 := mid_lt sh (show l < h by omega)
    rcases Nat.lt_trichotomy i (mid sh l h) with q | q | q
    · exact Tree.frag f _ _ t2 (by omega) i h1 q
    · rw [q]; exact ⟨_, _, t1⟩
    · exact Tree.frag f _ _ t3 (by omega) i (by omega) h2
theorem Tr.frag {w0 : World} {ps : List Pc} {sh : Int} {D : TB} (h : Tr w0 ps sh D) {i : Nat} (hi : i < ps.length) : ∃ L R, Frag w0 ps D i L R :=
  Tree.frag _ _ _ h.tree (by omega) i (by omega) hi

theorem cuts_enc {ps : List Pc} (hg : Good ps) {q : Int} (h0 : 0 ≤ q) (h1 : q ≤ 4294967295) : Cuts ps (enc q) (cut ps q) := by
  refine ⟨cut_le ps q, fun i hi' => ?_⟩
  have := hg.pos i hi'
  rw [cmp_le (lo ps i) q (by omega) (by omega) h0 h1]
  exact cut_iff ps hg q i hi'

/-! ### within -/
theorem within_nil {w : World} {cb : Nat} {c : Cr} (hb : Blk w cb c.arr 57) (hbd : c.bd = .slice none 0 0) (a : Option Addr) (n kc : Nat) :
    Calls Try.prog 37 #[.pointer (some ⟨cb, 0, none⟩), .slice a n kc] w fun e w' => e = .returned (.bool true) ∧ w' = w := by
  have qn : ∀ (w : World) (a : Option Addr) (n c : Nat), (binOp .eql 22 (.slice a n c) (.slice none 0 0)).run Try.prog w = .ok (.bool a.isNone) w := fun w a n c => Lib.run_eql_slice_nil w _ _ _ _ _ _ _ Try.underlying22
  have k6 : w.cell? ⟨cb, 6, none⟩ = some (.slice none 0 0) := by rw [← hbd]; exact hb.cell 6
  clear hb hbd
  go_enter Try.func37, Try.ntmps37
  go_wp2
  go_ret
  exact ⟨rfl, rfl⟩

theorem within_fwd {w : World} {cb : Nat} {c : Cr} (hb : Blk w cb c.arr 57) {g : Nat} {x : Int} (hbd : c.bd = keyV g x) (hrev : c.rev = false) (hx : KeyIn w (some ⟨g, 0, none⟩) (enc x).length (enc x))
    {a : Option Addr} {n kc : Nat} {ks : List Int} (hk : KeyIn w a n ks) :
    Calls Try.prog 37 #[.pointer (some ⟨cb, 0, none⟩), .slice a n kc] w fun e w' => e = .returned (.bool (decide (cmpL ks (enc x) < 0))) ∧ w' = w := by
  have qn : ∀ (w : World) (a : Option Addr) (n c : Nat), (binOp .eql 22 (.slice a n c) (.slice none 0 0)).run Try.prog w = .ok (.bool a.isNone) w := fun w a n c => Lib.run_eql_slice_nil w _ _ _ _ _ _ _ Try.underlying22
  have k6 : w.cell? ⟨cb, 6, none⟩ = some (.slice (some ⟨g, 0, none⟩) (enc x).length (enc x).length) := by have := hb.cell 6; rw [show c.arr[6]? = some c.bd from rfl, hbd] at this; exact this
  have k1 : w.cell? ⟨cb, 1, none⟩ = some (.bool false) := by rw [← hrev]; exact hb.cell 1
  have HX := hide hx
  have HK := hide hk
  clear hb hbd hx hk hrev
  go_enter Try.func37, Try.ntmps37
  go_wp2_with fail
  refine (compare_any HK.out HX.out).mono ?_
  rintro e w2 ⟨rfl, rfl⟩
  go_wp2
  go_ret
  exact ⟨rfl, rfl⟩

theorem within_rev {w : World} {cb : Nat} {c : Cr} (hb : Blk w cb c.arr 57) {g : Nat} {x : Int} (hbd : c.bd = keyV g x) (hrev : c.rev = true) (hx : KeyIn w (some ⟨g, 0, none⟩) (enc x).length (enc x))
    {a : Option Addr} {n kc : Nat} {ks : List Int} (hk : KeyIn w a n ks) :
    Calls Try.prog 37 #[.pointer (some ⟨cb, 0, none⟩), .slice a n kc] w fun e w' => e = .returned (.bool (decide (0 ≤ cmpL ks (enc x)))) ∧ w' = w := by
  have qn : ∀ (w : World) (a : Option Addr) (n c : Nat), (binOp .eql 22 (.slice a n c) (.slice none 0 0)).run Try.prog w = .ok (.bool a.isNone) w := fun w a n c => Lib.run_eql_slice_nil w _ _ _ _ _ _ _ Try.underlying22
  have k6 : w.cell? ⟨cb, 6, none⟩ = some (.slice (some ⟨g, 0, none⟩) (enc x).length (enc x).length) := by have := hb.cell 6; rw [show c.arr[6]? = some c.bd from rfl, hbd] at this; exact this
  have k1 : w.cell? ⟨cb, 1, none⟩ = some (.bool true) := by rw [← hrev]; exact hb.cell 1
  have HX := hide hx
  have HK := hide hk
  clear hb hbd hx hk hrev
  go_enter Try.func37, Try.ntmps37
  go_wp2_with fail
  refine (compare_any HK.out HX.out).mono ?_
  rintro e w2 ⟨rfl, rfl⟩
  go_wp2
  go_ret
  exact ⟨rfl, rfl⟩

/-! ### find -/
theorem KeyIn.same {w w' : World} {a : Option Addr} {n : Nat} {ks : List Int} (h : KeyIn w a n ks) (k : Same w w') : KeyIn w' a n ks :=
  ⟨fun hn => by
    obtain ⟨b, off, ha, hc⟩ := h.row hn
    exact ⟨b, off, ha, fun i hi => (k.cell _).trans (hc i hi)⟩, h.len, h.byte⟩

set_option maxHeartbeats 2000000 in
theorem find_any {w0 w : World} {ps : List Pc} {sh : Int} {D : TB} (hT : Tr w0 ps sh D) (hbel : Below w0.heap.size w0 w) {a : Option Addr} {n kc : Nat} {ks : List Int} (hK : KeyIn w a n ks) {K : Nat} (hcut : Cuts ps ks K) :
    Calls Try.prog 38 #[ptrB (rootp sh D 0 ps.length), .slice a n kc] w fun e w' => e = .returned (found D K) ∧ Same w w' := by
  obtain ⟨P, hP⟩ : ∃ P, ptrB (rootp sh D 0 ps.length) = .pointer P := ⟨_, rfl⟩
  rw [hP]
  obtain ⟨F, hF⟩ : ∃ F, F = found D K := ⟨_, rfl⟩
  rw [← hF]
  have HF := hide hF
  have HP := hide hP
  have HT := hide hT
  have HB := hide hbel
  have HK := hide hK
  have HCUT := hide hcut
  clear hP hT hbel hK hcut hF
  go_enter Try.func38, Try.ntmps38
  go_wp2
  go_loopg [0, 5] ps.length (fun k fp fd wr => ∃ (l h fu : Nat), h ≤ k + l ∧ l ≤ h ∧ h ≤ ps.length ∧ l ≤ K ∧ K ≤ h ∧ fd = found D l ∧ fp = ptrB (rootp sh D l h) ∧ Tree w0 ps sh D fu l h ∧ h - l ≤ fu ∧ Same w wr)
  case atStart => exact ⟨0, ps.length, ps.length, by omega, by omega, by omega, by omega, HCUT.out.1, rfl, HP.out.symm, HT.out.tree, by omega, Same.refl _⟩
  case round =>
    obtain ⟨l, h, fu, hk, hlh, hhN, hlK, hKh, rfl, rfl, htr, hfu, hSx⟩ := hrel
    have HSx := hide hSx
    have HTx := hide htr
    clear hSx htr
    by_cases hlt2 : l < h
    · obtain ⟨f2, rfl⟩ : ∃ f2, fu = f2 + 1 := ⟨fu - 1, by omega⟩
      obtain ⟨t1, t2, t3⟩ := HTx.out hlt2
      have g1 := mid_ge sh l h
      have g2 := mid_lt sh hlt2
      have er : rootp sh D l h = some (D.blk (mid sh l h)) := by unfold rootp; rw [if_pos hlt2]
      rw [er]
      generalize mid sh l h = q at t1 t2 t3 g1 g2
      have T1 := hide t1
      have T2 := hide t2
      have T3 := hide t3
      clear t1 t2 t3 er
      have hiff := HCUT.out.2 q (by omega)
      have hqf := T1.out.below (Below.same' HB.out HSx.out)
      have n0 : wr.cell? ⟨D.blk q, 0, none⟩ = some (.slice (some ⟨D.sb q, 0, none⟩) (enc (lo ps q)).length (enc (lo ps q)).length) := hqf.node.cell 0
      have hks := hide (frag_start hqf HT.out.good (by omega))
      have hkk := hide (HK.out.same HSx.out)
      obtain ⟨PL, hPL⟩ : ∃ PL, ptrB (rootp sh D l q) = .pointer PL := ⟨_, rfl⟩
      obtain ⟨PR, hPR⟩ : ∃ PR, ptrB (rootp sh D (q + 1) h) = .pointer PR := ⟨_, rfl⟩
      have n4 := push_left hqf hPL
      have n5 := push_right hqf hPR
      have HPL := hide hPL
      have HPR := hide hPR
      have hfd : ∃ FD, found D l = .pointer FD := by unfold found; split <;> exact ⟨_, rfl⟩
      obtain ⟨FD, hFD⟩ := hfd
      rw [hFD]
      have HFD := hide hFD
      clear hPL hPR hqf hFD
      unfold ptrB
      simp only [Option.map_some]
      by_cases hqK : q < K
      · have hz := hiff.2 hqK
        clear hiff
        go_wp2_with fail
        refine (compare_any hks.out hkk.out).mono ?_
        rintro e w2 ⟨rfl, rfl⟩
        generalize cmpL (enc (lo ps q)) ks = z at hz
        go_wp2
        go_region
        all_goals (try go_wp2)
        all_goals
          go_roundg (h - (q + 1))
          case measure => omega
          case rel => exact ⟨q + 1, h, f2, by omega, by omega, by omega, by omega, by omega, rfl, HPR.out.symm, T3.out, by omega, HSx.out.drew⟩
      · have hz : ¬ cmpL (enc (lo ps q)) ks ≤ 0 := fun e => hqK (hiff.1 e)
        clear hiff
        go_wp2_with fail
        refine (compare_any hks.out hkk.out).mono ?_
        rintro e w2 ⟨rfl, rfl⟩
        generalize cmpL (enc (lo ps q)) ks = z at hz
        go_wp2
        go_roundg (q - l)
        case measure => omega
        case rel => exact ⟨l, q, f2, by omega, by omega, by omega, by omega, by omega, HFD.out.symm, HPL.out.symm, T2.out, by omega, HSx.out⟩
    · have heK : l = K := by omega
      have er : rootp sh D l h = none := by unfold rootp; rw [if_neg hlt2]
      rw [er]
      have hfin : Hid (found D l = F) := by show found D l = F; rw [HF.out, heK]
      clear er heK
      unfold ptrB
      simp only [Option.map_none]
      go_wp2
      go_ret
      refine ⟨?_, HSx.out⟩
      show Ending.returned (found D l) = _
      rw [hfin.out]

/-! ### (*fragment).deletion -/
set_option maxHeartbeats 1000000 in
theorem fragDel_any {w0 w : World} {ps : List Pc} {sh : Int} {D : TB} (hT : Tr w0 ps sh D) (hbel : Below w0.heap.size w0 w) {q : Int} (h0 : 0 ≤ q) (h1 : q ≤ 4294967295) {a : Option Addr} {n kc : Nat} (hK : KeyIn w a n (enc q)) :
    Calls Try.prog 35 #[ptrB (rootp sh D 0 ps.length), .slice a n kc] w fun e w' => e = .returned (.int .u64 (ans ps q)) ∧ Same w w' := by
  have hfind := hide (find_any (kc := kc) hT hbel hK (cuts_enc hT.good h0 h1))
  obtain ⟨P, hP⟩ : ∃ P, ptrB (rootp sh D 0 ps.length) = .pointer P := ⟨_, rfl⟩
  rw [hP] at hfind ⊢
  clear hP
  have hcl := cut_le ps q
  unfold ans
  generalize hKe : cut ps q = K at hfind hcl
  clear hKe
  have HK := hide hK
  have HB := hide hbel
  have HT := hide hT
  clear hK hbel hT
  rcases K with _ | i
  · rw [if_neg (by omega)]
    rw [found_zero] at hfind
    go_enter Try.func35, Try.ntmps35
    go_wp2_with fail
    refine hfind.out.mono ?_
    rintro e w2 ⟨rfl, hs⟩
    have HS := hide hs
    clear hs
    go_wp2
    go_ret
    exact ⟨rfl, HS.out⟩
  · rw [found_succ] at hfind
    obtain ⟨L, R, hfr⟩ := HT.out.frag (i := i) (by omega)
    have hgp := HT.out.good.pos i (by omega)
    have hlt := cmp_lt q (hi ps i) h0 h1 (by omega) (by omega)
    have HFR := hide hfr
    clear hfr
    simp only [Nat.add_sub_cancel]
    by_cases hq : q < hi ps i
    · rw [if_pos ⟨by omega, hq⟩]
      have hz := hlt.2 hq
      clear hlt hgp hq
      go_enter Try.func35, Try.ntmps35
      go_wp2_with fail
      refine hfind.out.mono ?_
      rintro e w2 ⟨rfl, hs⟩
      have hf2 := HFR.out.below (Below.same' HB.out hs)
      have n1 : w2.cell? ⟨D.blk i, 1, none⟩ = some (.slice (some ⟨D.eb i, 0, none⟩) (enc (hi ps i)).length (enc (hi ps i)).length) := hf2.node.cell 1
      have n2 : w2.cell? ⟨D.blk i, 2, none⟩ = some (.int .u64 (sq ps i)) := hf2.node.cell 2
      have hke := hide (frag_end hf2 HT.out.good (by omega))
      have hkk := hide (HK.out.same hs)
      have HS := hide hs
      clear hs hf2
      go_wp2_with fail
      refine (compare_any hkk.out hke.out).mono ?_
      rintro e w3 ⟨rfl, rfl⟩
      generalize cmpL (enc q) (enc (hi ps i)) = z at hz
      go_wp2
      go_ret
      exact ⟨rfl, HS.out⟩
    · rw [if_neg (fun e => hq e.2)]
      have hz : ¬ cmpL (enc q) (enc (hi ps i)) < 0 := fun e => hq (hlt.1 e)
      clear hlt hgp hq
      go_enter Try.func35, Try.ntmps35
      go_wp2_with fail
      refine hfind.out.mono ?_
      rintro e w2 ⟨rfl, hs⟩
      have hf2 := HFR.out.below (Below.same' HB.out hs)
      have n1 : w2.cell? ⟨D.blk i, 1, none⟩ = some (.slice (some ⟨D.eb i, 0, none⟩) (enc (hi ps i)).length (enc (hi ps i)).length) := hf2.node.cell 1
      have hke := hide (frag_end hf2 HT.out.good (by omega))
      have hkk := hide (HK.out.same hs)
      have HS := hide hs
      clear hs hf2
      go_wp2_with fail
      refine (compare_any hkk.out hke.out).mono ?_
      rintro e w3 ⟨rfl, rfl⟩
      generalize cmpL (enc q) (enc (hi ps i)) = z at hz
      go_wp2
      go_ret
      exact ⟨rfl, HS.out⟩

end Go.Proofs.Qxb6000727a
