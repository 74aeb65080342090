/-
  (*fragmentCursor).seek (32).
-/
import Derived.Test.Qxb6000727aPop
set_option linter.unusedSimpArgs false
set_option linter.unusedVariables false
namespace Go.Proofs.Qxb6000727a
open Go.RowKit

/-- A key: no byte at all, or a block of its own. -/
structure KeyB (w : World) (a : Option Addr) (n : Nat) (ks : List Int) : Prop where
  len : ks.length = n
  byte : ∀ x ∈ ks, 0 ≤ x ∧ x < 256
  at_ : n = 0 ∨ ∃ g, a = some ⟨g, 0, none⟩ ∧ Blk w g ((ks.map (Value.int .u8)).toArray) 5

theorem KeyB.keyIn {w : World} {a : Option Addr} {n : Nat} {ks : List Int} (h : KeyB w a n ks) : KeyIn w a n ks := by
  refine ⟨fun hn => ?_, h.len, h.byte⟩
  rcases h.at_ with e | ⟨g, rfl, hb⟩
  · omega
  · refine ⟨g, 0, rfl, fun i hi => ?_⟩
    have hl := h.len
    rw [Nat.zero_add, hb.cell]
    have : i < ks.length := by omega
    simp [u8At, List.getD, this]

theorem KeyB.keep {w w' : World} {a : Option Addr} {n : Nat} {ks : List Int} (h : KeyB w a n ks) {F : Nat → Prop} (hf : Fr F w w') (hF : ∀ k, F k → ∀ cs, ¬ Blk w k cs 5) : KeyB w' a n ks := by
  refine ⟨h.len, h.byte, ?_⟩
  rcases h.at_ with e | ⟨g, ha, hb⟩
  · exact Or.inl e
  · exact Or.inr ⟨g, ha, hb.keep (hf.block g hb.lt (fun q => hF g q _ hb))⟩

theorem CurIn.no5 {w0 w : World} {D : TB} {cb : Nat} {c : Cr} {M : List Nat} (h : CurIn w0 w D cb c M) : ∀ k, (k = cb ∨ c.v.ownBlock = some k) → ∀ cs, ¬ Blk w k cs 5 := by
  rintro k (rfl | e) cs hb
  · exact h.blk.ne hb (by decide) rfl
  · rcases h.row.2 with ⟨hv, _⟩ | ⟨g, cap, cur, hv, _, hg, _⟩
    · rw [hv] at e; cases e
    · rw [hv] at e
      simp [Value.ownBlock] at e
      subst e
      unfold Blk at hb
      rw [hg] at hb
      simp at hb

theorem KeyB.step {w0 w w' : World} {D : TB} {cb : Nat} {c c' : Cr} {M : List Nat} {a : Option Addr} {n : Nat} {ks : List Int} (h : KeyB w a n ks) (hC : CurIn w0 w D cb c M) (hS : CStep w w' cb c c') : KeyB w' a n ks :=
  h.keep hS.fr hC.no5

theorem KeyB.nil (w : World) (a : Option Addr) : KeyB w a 0 [] := ⟨rfl, by simp, Or.inl rfl⟩
theorem KeyB.enc {w : World} {g : Nat} {v : Int} (h : Blk w g (encA v) 5) (h0 : 0 ≤ v) (h1 : v ≤ 4294967295) : KeyB w (some ⟨g, 0, none⟩) (enc v).length (enc v) :=
  ⟨rfl, enc_byte v h0 h1, Or.inr ⟨g, rfl, h⟩⟩

/-- K pieces start at or before the key. -/
def Cuts (ps : List Pc) (ks : List Int) (K : Nat) : Prop := K ≤ ps.length ∧ ∀ i, i < ps.length → (cmpL (Qxb6000727a.enc (lo ps i)) ks ≤ 0 ↔ i < K)

/-- The last of the first K pieces. -/
def found (D : TB) (K : Nat) : Value := if K = 0 then .pointer none else nodeP D (K - 1)
theorem found_zero (D : TB) : found D 0 = .pointer none := rfl
theorem found_succ (D : TB) (i : Nat) : found D (i + 1) = .pointer (some ⟨D.blk i, 0, none⟩) := rfl

theorem frag_start {w : World} {ps : List Pc} {D : TB} {i : Nat} {L R : Option Nat} (h : Frag w ps D i L R) (hg : Good ps) (hi : i < ps.length) : KeyIn w (some ⟨D.sb i, 0, none⟩) (enc (lo ps i)).length (enc (lo ps i)) := by
  have := hg.pos i hi
  exact KeyIn.of_blk h.st (by omega) (by omega)
theorem frag_end {w : World} {ps : List Pc} {D : TB} {i : Nat} {L R : Option Nat} (h : Frag w ps D i L R) (hg : Good ps) (hi' : i < ps.length) : KeyIn w (some ⟨D.eb i, 0, none⟩) (enc (hi ps i)).length (enc (hi ps i)) := by
  have := hg.pos i hi'
  exact KeyIn.of_blk h.en (by omega) (by omega)

/-- What seek leaves, forward. -/
def SeekF (w0 w : World) (ps : List Pc) (sh : Int) (D : TB) (cb : Nat) (c : Cr) (K : Nat) (e : Ending) (w' : World) : Prop :=
  ∃ v' M', e = .returned (found D K) ∧ CurIn w0 w' D cb { c with v := v' } M' ∧ Fwd w0 ps sh D ps.length M' K ∧ CStep w w' cb c { c with v := v' }

/-- The path emptied, stored back. -/
theorem CurIn.clear {w0 w : World} {D : TB} {cb : Nat} {c : Cr} {M : List Nat} (h : CurIn w0 w D cb c M) {a : Option Addr} {n cap : Nat} (hv : c.v = .slice a n cap) :
    CurIn w0 (w.setCell ⟨cb, 2, none⟩ (.slice a 0 cap)) D cb { c with v := .slice a 0 cap } [] ∧ CStep w (w.setCell ⟨cb, 2, none⟩ (.slice a 0 cap)) cb c { c with v := .slice a 0 cap } := by
  have hrow := h.row
  have hn : M.length = n := by
    obtain ⟨a', cap', e⟩ := h.shape
    rw [hv] at e
    simp only [Value.slice.injEq] at e
    exact e.2.1.symm
  rw [hn, hv] at hrow
  have h0 := owns_zero hrow
  refine ⟨CurIn.path h.bel h.cbl h.blk h0, (Fr.refl (fun k => k = cb ∨ c.v.ownBlock = some k) w).set (p := ⟨cb, 2, none⟩) (Or.inl rfl) _, fun k hk => Or.inl ?_⟩
  rw [hv]
  cases a with
  | none => cases hk
  | some a => exact hk

set_option maxHeartbeats 4000000 in
theorem seek_fwd {w0 w : World} {ps : List Pc} {sh : Int} {D : TB} (hT : Tr w0 ps sh D) {cb : Nat} {c : Cr} {M : List Nat} (hC : CurIn w0 w D cb c M) (hrev : c.rev = false) (hroot : c.root = ptrB (rootp sh D 0 ps.length))
    {a : Option Addr} {n kc : Nat} {ks : List Int} (hK : KeyB w a n ks) {K : Nat} (hcut : Cuts ps ks K) :
    Calls Try.prog 32 #[.pointer (some ⟨cb, 0, none⟩), .slice a n kc] w (SeekF w0 w ps sh D cb c K) := by
  obtain ⟨i0, hi, hz0, hz1, hz2⟩ := info_parts Try.info30
  obtain ⟨pa, pcap, hv⟩ := hC.shape
  obtain ⟨hcl, hst⟩ := hC.clear hv
  have hsm := hT.small
  have hcb := hC.blk
  have k0 : w.cell? ⟨cb, 0, none⟩ = some (ptrB (rootp sh D 0 ps.length)) := by have := hcb.cell 0; rw [← hroot]; exact this
  have k2 : w.cell? ⟨cb, 2, none⟩ = some (.slice pa M.length pcap) := by have := hcb.cell 2; rw [← hv]; exact this
  have kf := hcb.free
  obtain ⟨P, hP⟩ : ∃ P, ptrB (rootp sh D 0 ps.length) = .pointer P := ⟨_, rfl⟩
  rw [hP] at k0
  have HP := hide hP
  have HCL := hide hcl
  have HST := hide hst
  have HT := hide hT
  have HK := hide hK
  have HC := hide hC
  have HCUT := hide hcut
  have HREV := hide hrev
  clear hP hcl hst hT hK hC hcut hrev hroot hv hcb
  go_enter Try.func32, Try.ntmps32
  go_wp2
  go_loopg [5, 6] ps.length (fun k fd fp wr => ∃ (l h fu : Nat) (Mx : List Nat) (v : Value), h ≤ k + l ∧ l ≤ h ∧ h ≤ ps.length ∧ l ≤ K ∧ K ≤ h ∧ fd = found D l ∧ fp = ptrB (rootp sh D l h) ∧ Tree w0 ps sh D fu l h ∧ h - l ≤ fu ∧
      Fwd w0 ps sh D ps.length Mx h ∧ CurIn w0 wr D cb { c with v := v } Mx ∧ CStep w wr cb c { c with v := v })
  case atStart => exact ⟨0, ps.length, ps.length, [], _, by omega, by omega, by omega, by omega, HCUT.out.1, rfl, HP.out.symm, HT.out.tree, by omega, rfl, HCL.out, HST.out⟩
  case round =>
    obtain ⟨l, h, fu, Mx, v, hk, hlh, hhN, hlK, hKh, rfl, rfl, htr, hfu, hFx, hCx, hSx⟩ := hrel
    clear k0 k2 kf HP HCL HST
    have HFx := hide hFx
    have HCx := hide hCx
    have HSx := hide hSx
    have HTx := hide htr
    clear hFx hCx hSx htr
    by_cases hlt2 : l < h
    · obtain ⟨f2, rfl⟩ : ∃ f2, fu = f2 + 1 := ⟨fu - 1, by omega⟩
      obtain ⟨t1, t2, t3⟩ := HTx.out hlt2
      have g1 := mid_ge sh l h
      have g2 := mid_lt sh hlt2
      have er : rootp sh D l h = some (D.blk (mid sh l h)) := by unfold rootp; rw [if_pos hlt2]
      rw [er]
      generalize mid sh l h = q at t1 t2 t3 g1 g2
      have T1 := hide t1
      have T2 := hide t2
      have T3 := hide t3
      clear t1 t2 t3 er
      have hiff := HCUT.out.2 q (by omega)
      have hqf := T1.out.below HCx.out.bel
      have n0 : wr.cell? ⟨D.blk q, 0, none⟩ = some (.slice (some ⟨D.sb q, 0, none⟩) (enc (lo ps q)).length (enc (lo ps q)).length) := hqf.node.cell 0
      have hks := hide (frag_start hqf HT.out.good (by omega))
      have hkk := hide (HK.out.step HC.out HSx.out).keyIn
      have r1 := push_rev HCx.out.blk HREV.out
      obtain ⟨PL, hPL⟩ : ∃ PL, ptrB (rootp sh D l q) = .pointer PL := ⟨_, rfl⟩
      obtain ⟨PR, hPR⟩ : ∃ PR, ptrB (rootp sh D (q + 1) h) = .pointer PR := ⟨_, rfl⟩
      have n4 := push_left hqf hPL
      have n5 := push_right hqf hPR
      have HPL := hide hPL
      have HPR := hide hPR
      have hfd : ∃ FD, found D l = .pointer FD := by unfold found; split <;> exact ⟨_, rfl⟩
      obtain ⟨FD, hFD⟩ := hfd
      rw [hFD]
      have HFD := hide hFD
      clear hPL hPR hqf hFD
      unfold ptrB
      simp only [Option.map_some]
      by_cases hqK : q < K
      · have hz := hiff.2 hqK
        clear hiff
        go_wp2_with fail
        refine (compare_any hks.out hkk.out).mono ?_
        rintro e w2 ⟨rfl, rfl⟩
        generalize cmpL (enc (lo ps q)) ks = z at hz
        go_wp2
        go_region
        all_goals (try go_wp2)
        all_goals
          go_roundg (h - (q + 1))
          case measure => omega
          case rel => exact ⟨q + 1, h, f2, Mx, v, by omega, by omega, by omega, by omega, by omega, rfl, HPR.out.symm, T3.out, by omega, HFx.out, HCx.out.same (Same.refl _).drew, HSx.out.same (Same.refl _).drew⟩
      · have hz : ¬ cmpL (enc (lo ps q)) ks ≤ 0 := fun e => hqK (hiff.1 e)
        clear hiff
        go_wp2_with fail
        refine (compare_any hks.out hkk.out).mono ?_
        rintro e w2 ⟨rfl, rfl⟩
        generalize cmpL (enc (lo ps q)) ks = z at hz
        have hxl := HFx.out.len
        obtain ⟨a2, cap2, hvx⟩ := HCx.out.shape
        have hrx := HCx.out.row
        simp only at hvx hrx
        rw [hvx] at hrx
        have hcbx := HCx.out.blk
        have j2 := push_path hcbx hvx
        have hszx := HCx.out.bel.size
        have HVX := hide hvx
        clear hvx hcbx
        go_wp2_with (at_builtin; go_must (refine wpList_append_own_at _ rfl _ _ 40 rfl w0.heap.size 30 i0 (.pointer none) 1 8 Try.underlying40 hi hz0 hz1 hz2 rfl (by decide) _ _ _ rfl (hrx.alloc _) ⟨w2.heap.size, 0, none⟩ 1 1 [.pointer (some ⟨D.blk q, 0, none⟩)] rfl rfl (cell_one_new _ _ _) (by intro u hu; simp at hu; subst hu; rfl) (by unfold maxLen; omega) (by omega) (by simp; omega) ?_); go_must (intro v' w1 hown1 hgrow hnil hloc; obtain ⟨⟨gx, cap1, rfl⟩, hb1, hf1, hq1, hC1, hS1⟩ := HCx.out.push T1.out hown1 (by rw [HVX.out]; exact hgrow) (by rw [HVX.out]; exact hloc); have j1 := push_rev hb1 HREV.out; have j2' := push_path hb1 HVX.out; have jf := hb1.free; have j4 := push_left hf1 HPL.out; have HC1 := hide hC1; have HS1 := hide hS1; clear hown1 hgrow hnil hloc hb1 hf1 hC1 hS1))
        go_roundg (q - l)
        case measure => omega
        case rel => exact ⟨l, q, f2, Mx ++ [q], _, by omega, by omega, by omega, by omega, by omega, HFD.out.symm, HPL.out.symm, T2.out, by omega, HFx.out.snoc g2 ⟨_, f2, T1.out, T3.out, by omega⟩, HC1.out, HSx.out.trans HS1.out⟩
    · have he : h = l := by omega
      have heK : l = K := by omega
      have er : rootp sh D l h = none := by unfold rootp; rw [if_neg hlt2]
      rw [er]
      have r1 := push_rev HCx.out.blk HREV.out
      have hfin : Hid (SeekF w0 w ps sh D cb c K (.returned (found D l)) wr) := ⟨v, Mx, by rw [heK], HCx.out, by rw [← heK, ← he]; exact HFx.out, HSx.out⟩
      clear er he heK
      unfold ptrB
      simp only [Option.map_none]
      go_wp2
      go_ret
      exact hfin.out

/-- What seek leaves, in reverse. -/
def SeekR (w0 w : World) (ps : List Pc) (sh : Int) (D : TB) (cb : Nat) (c : Cr) (K : Nat) (e : Ending) (w' : World) : Prop :=
  ∃ v' M', e = .returned (found D K) ∧ CurIn w0 w' D cb { c with v := v' } M' ∧ Rev w0 ps sh D 0 M' (K - 1) ∧ CStep w w' cb c { c with v := v' }

set_option maxHeartbeats 4000000 in
theorem seek_rev {w0 w : World} {ps : List Pc} {sh : Int} {D : TB} (hT : Tr w0 ps sh D) {cb : Nat} {c : Cr} {M : List Nat} (hC : CurIn w0 w D cb c M) (hrev : c.rev = true) (hroot : c.root = ptrB (rootp sh D 0 ps.length))
    {a : Option Addr} {n kc : Nat} {ks : List Int} (hK : KeyB w a n ks) {K : Nat} (hcut : Cuts ps ks K) :
    Calls Try.prog 32 #[.pointer (some ⟨cb, 0, none⟩), .slice a n kc] w (SeekR w0 w ps sh D cb c K) := by
  obtain ⟨i0, hi, hz0, hz1, hz2⟩ := info_parts Try.info30
  obtain ⟨pa, pcap, hv⟩ := hC.shape
  obtain ⟨hcl, hst⟩ := hC.clear hv
  have hsm := hT.small
  have hcb := hC.blk
  have k0 : w.cell? ⟨cb, 0, none⟩ = some (ptrB (rootp sh D 0 ps.length)) := by have := hcb.cell 0; rw [← hroot]; exact this
  have k2 : w.cell? ⟨cb, 2, none⟩ = some (.slice pa M.length pcap) := by have := hcb.cell 2; rw [← hv]; exact this
  have kf := hcb.free
  obtain ⟨P, hP⟩ : ∃ P, ptrB (rootp sh D 0 ps.length) = .pointer P := ⟨_, rfl⟩
  rw [hP] at k0
  have HP := hide hP
  have HCL := hide hcl
  have HST := hide hst
  have HT := hide hT
  have HK := hide hK
  have HC := hide hC
  have HCUT := hide hcut
  have HREV := hide hrev
  clear hP hcl hst hT hK hC hcut hrev hroot hv hcb
  go_enter Try.func32, Try.ntmps32
  go_wp2
  go_loopg [5, 6] ps.length (fun k fd fp wr => ∃ (l h fu : Nat) (Mx : List Nat) (v : Value), h ≤ k + l ∧ l ≤ h ∧ h ≤ ps.length ∧ l ≤ K ∧ K ≤ h ∧ fd = found D l ∧ fp = ptrB (rootp sh D l h) ∧ Tree w0 ps sh D fu l h ∧ h - l ≤ fu ∧
      Rev w0 ps sh D 0 Mx l ∧ CurIn w0 wr D cb { c with v := v } Mx ∧ CStep w wr cb c { c with v := v })
  case atStart => exact ⟨0, ps.length, ps.length, [], _, by omega, by omega, by omega, by omega, HCUT.out.1, rfl, HP.out.symm, HT.out.tree, by omega, rfl, HCL.out, HST.out⟩
  case round =>
    obtain ⟨l, h, fu, Mx, v, hk, hlh, hhN, hlK, hKh, rfl, rfl, htr, hfu, hFx, hCx, hSx⟩ := hrel
    clear k0 k2 kf HP HCL HST
    have HFx := hide hFx
    have HCx := hide hCx
    have HSx := hide hSx
    have HTx := hide htr
    clear hFx hCx hSx htr
    by_cases hlt2 : l < h
    · obtain ⟨f2, rfl⟩ : ∃ f2, fu = f2 + 1 := ⟨fu - 1, by omega⟩
      obtain ⟨t1, t2, t3⟩ := HTx.out hlt2
      have g1 := mid_ge sh l h
      have g2 := mid_lt sh hlt2
      have er : rootp sh D l h = some (D.blk (mid sh l h)) := by unfold rootp; rw [if_pos hlt2]
      rw [er]
      generalize mid sh l h = q at t1 t2 t3 g1 g2
      have T1 := hide t1
      have T2 := hide t2
      have T3 := hide t3
      clear t1 t2 t3 er
      have hiff := HCUT.out.2 q (by omega)
      have hqf := T1.out.below HCx.out.bel
      have n0 : wr.cell? ⟨D.blk q, 0, none⟩ = some (.slice (some ⟨D.sb q, 0, none⟩) (enc (lo ps q)).length (enc (lo ps q)).length) := hqf.node.cell 0
      have hks := hide (frag_start hqf HT.out.good (by omega))
      have hkk := hide (HK.out.step HC.out HSx.out).keyIn
      have r1 := push_rev HCx.out.blk HREV.out
      obtain ⟨PL, hPL⟩ : ∃ PL, ptrB (rootp sh D l q) = .pointer PL := ⟨_, rfl⟩
      obtain ⟨PR, hPR⟩ : ∃ PR, ptrB (rootp sh D (q + 1) h) = .pointer PR := ⟨_, rfl⟩
      have n4 := push_left hqf hPL
      have n5 := push_right hqf hPR
      have HPL := hide hPL
      have HPR := hide hPR
      have hfd : ∃ FD, found D l = .pointer FD := by unfold found; split <;> exact ⟨_, rfl⟩
      obtain ⟨FD, hFD⟩ := hfd
      rw [hFD]
      have HFD := hide hFD
      clear hPL hPR hqf hFD
      unfold ptrB
      simp only [Option.map_some]
      by_cases hqK : q < K
      · have hz := hiff.2 hqK
        clear hiff
        go_wp2_with fail
        refine (compare_any hks.out hkk.out).mono ?_
        rintro e w2 ⟨rfl, rfl⟩
        generalize cmpL (enc (lo ps q)) ks = z at hz
        have hxl := HFx.out.len
        obtain ⟨a2, cap2, hvx⟩ := HCx.out.shape
        have hrx := HCx.out.row
        simp only at hvx hrx
        rw [hvx] at hrx
        have hcbx := HCx.out.blk
        have j2 := push_path hcbx hvx
        have hszx := HCx.out.bel.size
        have HVX := hide hvx
        clear hvx hcbx
        go_wp2_with (at_builtin; go_must (refine wpList_append_own_at _ rfl _ _ 40 rfl w0.heap.size 30 i0 (.pointer none) 1 8 Try.underlying40 hi hz0 hz1 hz2 rfl (by decide) _ _ _ rfl (hrx.alloc _) ⟨w2.heap.size, 0, none⟩ 1 1 [.pointer (some ⟨D.blk q, 0, none⟩)] rfl rfl (cell_one_new _ _ _) (by intro u hu; simp at hu; subst hu; rfl) (by unfold maxLen; omega) (by omega) (by simp; omega) ?_); go_must (intro v' w1 hown1 hgrow hnil hloc; obtain ⟨⟨gx, cap1, rfl⟩, hb1, hf1, hq1, hC1, hS1⟩ := HCx.out.push T1.out hown1 (by rw [HVX.out]; exact hgrow) (by rw [HVX.out]; exact hloc); have j2' := push_path hb1 HVX.out; have jf := hb1.free; have j5 := push_right hf1 HPR.out; have HC1 := hide hC1; have HS1 := hide hS1; clear hown1 hgrow hnil hloc hb1 hf1 hC1 hS1))
        go_region
        all_goals (try go_wp2)
        all_goals
          go_roundg (h - (q + 1))
          case measure => omega
          case rel => exact ⟨q + 1, h, f2, Mx ++ [q], _, by omega, by omega, by omega, by omega, by omega, rfl, HPR.out.symm, T3.out, by omega, HFx.out.snoc g1 ⟨_, f2, T1.out, T2.out, by omega⟩, HC1.out.same (Same.refl _).drew, HSx.out.trans (HS1.out.same (Same.refl _).drew)⟩
      · have hz : ¬ cmpL (enc (lo ps q)) ks ≤ 0 := fun e => hqK (hiff.1 e)
        clear hiff
        go_wp2_with fail
        refine (compare_any hks.out hkk.out).mono ?_
        rintro e w2 ⟨rfl, rfl⟩
        generalize cmpL (enc (lo ps q)) ks = z at hz
        go_wp2
        go_roundg (q - l)
        case measure => omega
        case rel => exact ⟨l, q, f2, Mx, v, by omega, by omega, by omega, by omega, by omega, HFD.out.symm, HPL.out.symm, T2.out, by omega, HFx.out, HCx.out, HSx.out⟩
    · have he : h = l := by omega
      have heK : l = K := by omega
      have er : rootp sh D l h = none := by unfold rootp; rw [if_neg hlt2]
      rw [er]
      have r1 := push_rev HCx.out.blk HREV.out
      subst heK
      have hKN : l ≤ ps.length := by omega
      clear er
      unfold ptrB
      simp only [Option.map_none]
      rcases Mx.eq_nil_or_concat with hM | ⟨M1, m, hM⟩
      · subst hM
        have hl0 : l = 0 := HFx.out
        have hfin : Hid (SeekR w0 w ps sh D cb c l (.returned (found D l)) wr) := ⟨v, [], rfl, HCx.out, by rw [hl0]; rfl, HSx.out⟩
        have hpop := hide (pop_empty HCx.out)
        clear hl0
        go_wp2_with fail
        refine hpop.out.mono ?_
        rintro e w2 ⟨rfl, rfl⟩
        go_wp2
        go_ret
        exact hfin.out
      · rw [List.concat_eq_append] at hM
        subst hM
        obtain ⟨hlm, _⟩ := HFx.out.top
        have hpop := hide (pop_rev HT.out HCx.out HFx.out (by omega) HREV.out)
        have HLM := hide hlm
        clear hlm
        go_wp2_with fail
        refine hpop.out.mono ?_
        rintro e w2 ⟨v2, M2, rfl, hC2, hR2, hS2⟩
        have hfin : Hid (SeekR w0 w ps sh D cb c l (.returned (found D l)) w2) := ⟨v2, M2, rfl, hC2, by rw [HLM.out]; exact hR2, HSx.out.trans hS2⟩
        clear hC2 hR2 hS2
        unfold nodeP
        go_wp2
        go_ret
        exact hfin.out

end Go.Proofs.Qxb6000727a
