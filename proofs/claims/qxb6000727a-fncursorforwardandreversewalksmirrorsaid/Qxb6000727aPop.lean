/-
  (*fragmentCursor).pop (33).
-/
import Derived.Test.Qxb6000727aCursor
import Derived.Deep.LoopGhost
set_option linter.unusedSimpArgs false
set_option linter.unusedVariables false
namespace Go.Proofs.Qxb6000727a
open Go.RowKit

theorem pop_empty {w0 w : World} {D : TB} {cb : Nat} {c : Cr} (hC : CurIn w0 w D cb c []) :
    Calls Try.prog 33 #[.pointer (some ⟨cb, 0, none⟩)] w fun e w' => e = .returned (.pointer none) ∧ w' = w := by
  obtain ⟨a, cap, hv⟩ := hC.shape
  have k2 : w.cell? ⟨cb, 2, none⟩ = some c.v := hC.blk.cell 2
  rw [hv] at k2
  simp only [List.length_nil] at k2
  clear hC hv
  go_enter Try.func33, Try.ntmps33
  go_wp2
  go_ret
  exact ⟨rfl, rfl⟩

theorem push_rev {w : World} {cb : Nat} {c : Cr} {v : Value} {b : Bool} (h : Blk w cb ({ c with v := v } : Cr).arr 57) (hr : c.rev = b) : w.cell? ⟨cb, 1, none⟩ = some (.bool b) := by
  have := h.cell 1; rw [← hr]; exact this
theorem push_path {w : World} {cb : Nat} {c : Cr} {v x : Value} (h : Blk w cb ({ c with v := v } : Cr).arr 57) (hv : v = x) : w.cell? ⟨cb, 2, none⟩ = some x := by
  have := h.cell 2; rw [← hv]; exact this
theorem push_left {w : World} {ps : List Pc} {D : TB} {q : Nat} {L R : Option Nat} {P : Option Addr} (h : Frag w ps D q L R) (hP : ptrB L = .pointer P) : w.cell? ⟨D.blk q, 4, none⟩ = some (.pointer P) := by
  have := h.node.cell 4; rw [← hP]; exact this
theorem push_right {w : World} {ps : List Pc} {D : TB} {q : Nat} {L R : Option Nat} {P : Option Addr} (h : Frag w ps D q L R) (hP : ptrB R = .pointer P) : w.cell? ⟨D.blk q, 5, none⟩ = some (.pointer P) := by
  have := h.node.cell 5; rw [← hP]; exact this

/-- What pop leaves, forward. -/
def PopF (w0 w : World) (ps : List Pc) (sh : Int) (D : TB) (cb : Nat) (c : Cr) (m : Nat) (e : Ending) (w' : World) : Prop :=
  ∃ v' M', e = .returned (nodeP D m) ∧ CurIn w0 w' D cb { c with v := v' } M' ∧ Fwd w0 ps sh D ps.length M' (m + 1) ∧ CStep w w' cb c { c with v := v' }

set_option maxHeartbeats 4000000 in
theorem pop_fwd {w0 w : World} {ps : List Pc} {sh : Int} {D : TB} (hT : Tr w0 ps sh D) {cb : Nat} {c : Cr} {M : List Nat} {m cur : Nat} (hC : CurIn w0 w D cb c (M ++ [m])) (hF : Fwd w0 ps sh D ps.length (M ++ [m]) cur) (hrev : c.rev = false) :
    Calls Try.prog 33 #[.pointer (some ⟨cb, 0, none⟩)] w (PopF w0 w ps sh D cb c m) := by
  obtain ⟨i0, hi, hz0, hz1, hz2⟩ := info_parts Try.info30
  obtain ⟨_, c1, hF1, hmc, L, f, hfr, htr, hft⟩ := hF.top
  have hlen := hF.len
  simp only [List.length_append, List.length_cons, List.length_nil, Nat.zero_add] at hlen
  have hsm := hT.small
  obtain ⟨g, cap, hv, hcap, hcells⟩ := hC.shape_pos (by simp)
  have hcm := hcells M.length (by simp)
  simp only [List.getElem_append_right (Nat.le_refl _), Nat.sub_self, List.getElem_cons_zero] at hcm
  have hC' := hC
  rw [List.length_append, List.length_cons, List.length_nil, Nat.zero_add] at hv hcap
  -- the path cut
  have hrow := hC.row
  rw [hv] at hrow
  simp only [ptrs, List.map_append, List.map_cons, List.map_nil, List.length_append, List.length_cons, List.length_nil, Nat.zero_add] at hrow
  have hrow2 := owns_cut hrow
  have hbl := hC.bel
  have hcb := hC.blk
  have hcut : CurIn w0 (w.setCell ⟨cb, 2, none⟩ (.slice (some ⟨g, 0, none⟩) M.length cap)) D cb { c with v := .slice (some ⟨g, 0, none⟩) M.length cap } M := CurIn.path hbl hC.cbl hcb hrow2
  have hstep : CStep w (w.setCell ⟨cb, 2, none⟩ (.slice (some ⟨g, 0, none⟩) M.length cap)) cb c { c with v := .slice (some ⟨g, 0, none⟩) M.length cap } :=
    ⟨(Fr.refl _ _).set (p := ⟨cb, 2, none⟩) (Or.inl rfl) _, fun k hk => Or.inl (by rw [hv]; exact hk)⟩
  have hnode := (hfr.below hbl).node
  have hnode2 := (hfr.below hcut.bel).node
  have k1 : w.cell? ⟨cb, 1, none⟩ = some (.bool false) := by have := hcb.cell 1; simpa [Cr.arr, hrev] using this
  have k2 : w.cell? ⟨cb, 2, none⟩ = some (.slice (some ⟨g, 0, none⟩) (M.length + 1) cap) := by have := hcb.cell 2; simpa [Cr.arr, hv] using this
  have kf := hcb.free
  have hlt := hcb.lt
  have hne : cb ≠ D.blk m := fun e => (hcb.ne hnode (by decide)) e
  have hgne : g ≠ cb := fun e => hC.row_ne (by rw [hv, e]; rfl)
  have n5 : w.cell? ⟨D.blk m, 5, none⟩ = some (ptrB (rootp sh D (m + 1) c1)) := hnode.cell 5
  unfold nodeP at hcm
  have HCUT := hide hcut
  have HST := hide hstep
  have HF1 := hide hF1
  have HT := hide hT
  have HTR := hide htr
  obtain ⟨P, hP⟩ : ∃ P, ptrB (rootp sh D (m + 1) c1) = .pointer P := ⟨_, rfl⟩
  rw [hP] at n5
  have HPe := hide hP
  have HREV := hide hrev
  clear hcut hstep hF1 hT htr hP hnode hnode2 hfr hC hC' hrow hrow2 hcells hbl hcb hF hv hrev
  go_enter Try.func33, Try.ntmps33
  go_wp2
  go_loopg [5] (c1 - (m + 1)) (fun k next wr => ∃ (h f : Nat) (Mx : List Nat) (v : Value), h ≤ k + (m + 1) ∧ m + 1 ≤ h ∧ h ≤ ps.length ∧ next = ptrB (rootp sh D (m + 1) h) ∧ Tree w0 ps sh D f (m + 1) h ∧ h - (m + 1) ≤ f ∧
      Fwd w0 ps sh D ps.length Mx h ∧ CurIn w0 wr D cb { c with v := v } Mx ∧ CStep w wr cb c { c with v := v })
  case atStart =>
    have hle := HF1.out.len
    exact ⟨c1, f, M, _, by omega, by omega, by omega, HPe.out.symm, HTR.out, hft, HF1.out, HCUT.out, HST.out⟩
  case round =>
    obtain ⟨h, f', Mx, v, hk, hmh, hhN, rfl, htr, hft', hFx, hCx, hSx⟩ := hrel
    clear k1 k2 kf hcm n5 HCUT HST HF1 HTR HPe
    have HFx := hide hFx
    have HCx := hide hCx
    have HSx := hide hSx
    have HTx := hide htr
    clear hFx hCx hSx htr
    by_cases hlt2 : m + 1 < h
    · obtain ⟨f2, rfl⟩ : ∃ f2, f' = f2 + 1 := ⟨f' - 1, by omega⟩
      obtain ⟨t1, t2, t3⟩ := HTx.out hlt2
      have g1 := mid_ge sh (m + 1) h
      have g2 := mid_lt sh hlt2
      have er : rootp sh D (m + 1) h = some (D.blk (mid sh (m + 1) h)) := by unfold rootp; rw [if_pos hlt2]
      rw [er]
      generalize mid sh (m + 1) h = q at t1 t2 t3 g1 g2
      have T1 := hide t1
      have T2 := hide t2
      have T3 := hide t3
      clear t1 t2 t3 er
      have hxl := HFx.out.len
      obtain ⟨a, cap2, hvx⟩ := HCx.out.shape
      have hrx := HCx.out.row
      simp only at hvx hrx
      rw [hvx] at hrx
      have hcbx := HCx.out.blk
      have j2 : wr.cell? ⟨cb, 2, none⟩ = some (.slice a Mx.length cap2) := by have := hcbx.cell 2; simpa [Cr.arr, hvx] using this
      have hszx := HCx.out.bel.size
      have hne2 := HCx.out.row_ne
      simp only [hvx] at hne2
      have HNE := hide hne2
      have HVX := hide hvx
      clear hvx hcbx hne2
      obtain ⟨Pq, hPq⟩ : ∃ Pq, ptrB (rootp sh D (m + 1) q) = .pointer Pq := ⟨_, rfl⟩
      have HPq := hide hPq
      clear hPq
      unfold ptrB
      simp only [Option.map_some]
      go_wp2_with (at_builtin; go_must (refine wpList_append_own_at _ rfl _ _ 40 rfl w0.heap.size 30 i0 (.pointer none) 1 8 Try.underlying40 hi hz0 hz1 hz2 rfl (by decide) _ _ _ rfl (hrx.alloc _) ⟨wr.heap.size, 0, none⟩ 1 1 [.pointer (some ⟨D.blk q, 0, none⟩)] rfl rfl (cell_one_new _ _ _) (by intro u hu; simp at hu; subst hu; rfl) (by unfold maxLen; omega) (by omega) (by simp; omega) ?_); go_must (intro v' w1 hown1 hgrow hnil hloc; obtain ⟨⟨g1, cap1, rfl⟩, hb1, hf1, hq1, hC1, hS1⟩ := HCx.out.push T1.out hown1 (by rw [HVX.out]; exact hgrow) (by rw [HVX.out]; exact hloc); have j1 := push_rev hb1 HREV.out; have j2' := push_path hb1 HVX.out; have jf := hb1.free; have j4 := push_left hf1 HPq.out; have HC1 := hide hC1; have HS1 := hide hS1; clear hown1 hgrow hnil hloc hb1 hf1 hC1 hS1))
      go_roundg (q - (m + 1))
      case measure => omega
      case rel => exact ⟨q, f2, Mx ++ [q], _, by omega, by omega, by omega, HPq.out.symm, T2.out, by omega, HFx.out.snoc g2 ⟨_, f2, T1.out, T3.out, by omega⟩, HC1.out, HSx.out.trans HS1.out⟩
    · have he : h = m + 1 := by omega
      have er : rootp sh D (m + 1) h = none := by unfold rootp; rw [if_neg hlt2]
      rw [er]
      have hfin : Hid (PopF w0 w ps sh D cb c m (.returned (.pointer (some ⟨D.blk m, 0, none⟩))) wr) := ⟨v, Mx, rfl, HCx.out, by rw [← he]; exact HFx.out, HSx.out⟩
      clear er he
      unfold ptrB
      simp only [Option.map_none]
      go_wp2
      go_ret
      exact hfin.out

/-- What pop leaves, in reverse. -/
def PopR (w0 w : World) (ps : List Pc) (sh : Int) (D : TB) (cb : Nat) (c : Cr) (m : Nat) (e : Ending) (w' : World) : Prop :=
  ∃ v' M', e = .returned (nodeP D m) ∧ CurIn w0 w' D cb { c with v := v' } M' ∧ Rev w0 ps sh D 0 M' m ∧ CStep w w' cb c { c with v := v' }

set_option maxHeartbeats 4000000 in
theorem pop_rev {w0 w : World} {ps : List Pc} {sh : Int} {D : TB} (hT : Tr w0 ps sh D) {cb : Nat} {c : Cr} {M : List Nat} {m cur : Nat} (hC : CurIn w0 w D cb c (M ++ [m])) (hF : Rev w0 ps sh D 0 (M ++ [m]) cur) (hmN : m < ps.length) (hrev : c.rev = true) :
    Calls Try.prog 33 #[.pointer (some ⟨cb, 0, none⟩)] w (PopR w0 w ps sh D cb c m) := by
  obtain ⟨i0, hi, hz0, hz1, hz2⟩ := info_parts Try.info30
  obtain ⟨hcur, c1, hF1, hmc, R, f, hfr, htr, hft⟩ := hF.top
  have hlen := hF.len
  rw [hcur] at hlen
  simp only [List.length_append, List.length_cons, List.length_nil, Nat.zero_add] at hlen
  have hsm := hT.small
  obtain ⟨g, cap, hv, hcap, hcells⟩ := hC.shape_pos (by simp)
  have hcm := hcells M.length (by simp)
  simp only [List.getElem_append_right (Nat.le_refl _), Nat.sub_self, List.getElem_cons_zero] at hcm
  have hC' := hC
  rw [List.length_append, List.length_cons, List.length_nil, Nat.zero_add] at hv hcap
  -- the path cut
  have hrow := hC.row
  rw [hv] at hrow
  simp only [ptrs, List.map_append, List.map_cons, List.map_nil, List.length_append, List.length_cons, List.length_nil, Nat.zero_add] at hrow
  have hrow2 := owns_cut hrow
  have hbl := hC.bel
  have hcb := hC.blk
  have hcut : CurIn w0 (w.setCell ⟨cb, 2, none⟩ (.slice (some ⟨g, 0, none⟩) M.length cap)) D cb { c with v := .slice (some ⟨g, 0, none⟩) M.length cap } M := CurIn.path hbl hC.cbl hcb hrow2
  have hstep : CStep w (w.setCell ⟨cb, 2, none⟩ (.slice (some ⟨g, 0, none⟩) M.length cap)) cb c { c with v := .slice (some ⟨g, 0, none⟩) M.length cap } :=
    ⟨(Fr.refl _ _).set (p := ⟨cb, 2, none⟩) (Or.inl rfl) _, fun k hk => Or.inl (by rw [hv]; exact hk)⟩
  have hnode := (hfr.below hbl).node
  have hnode2 := (hfr.below hcut.bel).node
  have k1 : w.cell? ⟨cb, 1, none⟩ = some (.bool true) := by have := hcb.cell 1; simpa [Cr.arr, hrev] using this
  have k2 : w.cell? ⟨cb, 2, none⟩ = some (.slice (some ⟨g, 0, none⟩) (M.length + 1) cap) := by have := hcb.cell 2; simpa [Cr.arr, hv] using this
  have kf := hcb.free
  have hlt := hcb.lt
  have hne : cb ≠ D.blk m := fun e => (hcb.ne hnode (by decide)) e
  have hgne : g ≠ cb := fun e => hC.row_ne (by rw [hv, e]; rfl)
  have n4 : w.cell? ⟨D.blk m, 4, none⟩ = some (ptrB (rootp sh D c1 m)) := hnode.cell 4
  have n5 : w.cell? ⟨D.blk m, 5, none⟩ = some (ptrB R) := hnode.cell 5
  unfold nodeP at hcm
  have HCUT := hide hcut
  have HST := hide hstep
  have HF1 := hide hF1
  have HT := hide hT
  have HTR := hide htr
  obtain ⟨P, hP⟩ : ∃ P, ptrB (rootp sh D c1 m) = .pointer P := ⟨_, rfl⟩
  rw [hP] at n4
  obtain ⟨P5, hP5⟩ : ∃ P, ptrB R = .pointer P := ⟨_, rfl⟩
  rw [hP5] at n5
  clear hP5
  have HPe := hide hP
  have HREV := hide hrev
  clear hcut hstep hF1 hT htr hP hnode hnode2 hfr hC hC' hrow hrow2 hcells hbl hcb hF hv hrev
  go_enter Try.func33, Try.ntmps33
  go_wp2
  go_loopg [5] (m - c1) (fun k next wr => ∃ (l f : Nat) (Mx : List Nat) (v : Value), m ≤ k + l ∧ l ≤ m ∧ next = ptrB (rootp sh D l m) ∧ Tree w0 ps sh D f l m ∧ m - l ≤ f ∧
      Rev w0 ps sh D 0 Mx l ∧ CurIn w0 wr D cb { c with v := v } Mx ∧ CStep w wr cb c { c with v := v })
  case atStart =>
    exact ⟨c1, f, M, _, by omega, by omega, HPe.out.symm, HTR.out, hft, HF1.out, HCUT.out, HST.out⟩
  case round =>
    obtain ⟨l, f', Mx, v, hk, hmh, rfl, htr, hft', hFx, hCx, hSx⟩ := hrel
    clear k1 k2 kf hcm n4 n5 HCUT HST HF1 HTR HPe
    have HFx := hide hFx
    have HCx := hide hCx
    have HSx := hide hSx
    have HTx := hide htr
    clear hFx hCx hSx htr
    by_cases hlt2 : l < m
    · obtain ⟨f2, rfl⟩ : ∃ f2, f' = f2 + 1 := ⟨f' - 1, by omega⟩
      obtain ⟨t1, t2, t3⟩ := HTx.out hlt2
      have g1 := mid_ge sh l m
      have g2 := mid_lt sh hlt2
      have er : rootp sh D l m = some (D.blk (mid sh l m)) := by unfold rootp; rw [if_pos hlt2]
      rw [er]
      generalize mid sh l m = q at t1 t2 t3 g1 g2
      have T1 := hide t1
      have T2 := hide t2
      have T3 := hide t3
      clear t1 t2 t3 er
      have hxl := HFx.out.len
      obtain ⟨a, cap2, hvx⟩ := HCx.out.shape
      have hrx := HCx.out.row
      simp only at hvx hrx
      rw [hvx] at hrx
      have hcbx := HCx.out.blk
      have j2 : wr.cell? ⟨cb, 2, none⟩ = some (.slice a Mx.length cap2) := by have := hcbx.cell 2; simpa [Cr.arr, hvx] using this
      have hszx := HCx.out.bel.size
      have hne2 := HCx.out.row_ne
      simp only [hvx] at hne2
      have HNE := hide hne2
      have HVX := hide hvx
      clear hvx hcbx hne2
      obtain ⟨Pq, hPq⟩ : ∃ Pq, ptrB (rootp sh D (q + 1) m) = .pointer Pq := ⟨_, rfl⟩
      have HPq := hide hPq
      clear hPq
      unfold ptrB
      simp only [Option.map_some]
      go_wp2_with (at_builtin; go_must (refine wpList_append_own_at _ rfl _ _ 40 rfl w0.heap.size 30 i0 (.pointer none) 1 8 Try.underlying40 hi hz0 hz1 hz2 rfl (by decide) _ _ _ rfl (hrx.alloc _) ⟨wr.heap.size, 0, none⟩ 1 1 [.pointer (some ⟨D.blk q, 0, none⟩)] rfl rfl (cell_one_new _ _ _) (by intro u hu; simp at hu; subst hu; rfl) (by unfold maxLen; omega) (by omega) (by simp; omega) ?_); go_must (intro v' w1 hown1 hgrow hnil hloc; obtain ⟨⟨g1, cap1, rfl⟩, hb1, hf1, hq1, hC1, hS1⟩ := HCx.out.push T1.out hown1 (by rw [HVX.out]; exact hgrow) (by rw [HVX.out]; exact hloc); have j1 := push_rev hb1 HREV.out; have j2' := push_path hb1 HVX.out; have jf := hb1.free; have j4 := push_right hf1 HPq.out; have HC1 := hide hC1; have HS1 := hide hS1; clear hown1 hgrow hnil hloc hb1 hf1 hC1 hS1))
      go_roundg (m - (q + 1))
      case measure => omega
      case rel => exact ⟨q + 1, f2, Mx ++ [q], _, by omega, by omega, HPq.out.symm, T3.out, by omega, HFx.out.snoc (by omega) ⟨_, f2, T1.out, T2.out, by omega⟩, HC1.out, HSx.out.trans HS1.out⟩
    · have he : l = m := by omega
      have er : rootp sh D l m = none := by unfold rootp; rw [if_neg hlt2]
      rw [er]
      have hfin : Hid (PopR w0 w ps sh D cb c m (.returned (.pointer (some ⟨D.blk m, 0, none⟩))) wr) := ⟨v, Mx, rfl, HCx.out, by have q := HFx.out; rw [he] at q; exact q, HSx.out⟩
      clear er he
      unfold ptrB
      simp only [Option.map_none]
      go_wp2
      go_ret
      exact hfin.out

end Go.Proofs.Qxb6000727a
