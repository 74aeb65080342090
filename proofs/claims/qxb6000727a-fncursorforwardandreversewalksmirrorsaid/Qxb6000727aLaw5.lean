/-
  FnCursorDeletionAgreesWithScan (5): the walk.
-/
import Derived.Test.Qxb6000727aShim
set_option linter.unusedSimpArgs false
set_option linter.unusedVariables false
namespace Go.Proofs.Qxb6000727a
open Go.RowKit

def Yes (w : World) (e : Ending) (w' : World) : Prop := e = .returned (.bool true) ∧ Below w.heap.size w w'
theorem Yes.mk {w w' : World} (h : Below w.heap.size w w') : Yes w (.returned (.bool true)) w' := ⟨rfl, h⟩

theorem sums_bd (xs : List Int) (hb : ∀ i, 0 ≤ xs.getD i 0 ∧ xs.getD i 0 ≤ 65535) (hl : xs.length ≤ 4096) (i : Nat) : 0 ≤ (sums xs).getD i 0 ∧ (sums xs).getD i 0 ≤ 268431360 := by
  by_cases h : i < xs.length
  · rw [sums_at xs i h]
    have := sumTo_bd xs hb (i + 1)
    omega
  · have : (sums xs).length ≤ i := by simp [sums]; omega
    simp [List.getD, List.getElem?_eq_none this]
theorem sums_mono (xs : List Int) (hb : ∀ i, 0 ≤ xs.getD i 0 ∧ xs.getD i 0 ≤ 65535) {i j : Nat} (hij : i ≤ j) (hj : j < xs.length) : (sums xs).getD i 0 ≤ (sums xs).getD j 0 := by
  rw [sums_at xs i (by omega), sums_at xs j hj]
  have := sumTo_mono xs hb (i + 1) (j - i)
  rw [show i + 1 + (j - i) = j + 1 by omega] at this
  exact this

/-- Which question comes k-th. -/
def ask (rv : Bool) (n k : Nat) : Nat := if rv then n - 1 - k else k

set_option maxHeartbeats 8000000 in
set_option maxRecDepth 100000 in
theorem law5 (a0 : Option Addr) (n0 c0 : Nat) (a1 : Option Addr) (n1 c1 : Nat) (sh : Int) (rv : Bool) (a4 : Option Addr) (n4 c4 : Nat) (z0 z1 z4 : List Int) (w : World)
    (r0 : RowV w a0 n0 (u8At z0)) (r1 : RowV w a1 n1 (u64At z1)) (r4 : RowV w a4 n4 (u16At z4)) (nl0 : a0 = none → n0 = 0 ∧ c0 = 0) (nl1 : a1 = none → n1 = 0 ∧ c1 = 0) (nl4 : a4 = none → n4 = 0 ∧ c4 = 0)
    (ml0 : n0 ≤ maxLen) (ml1 : n1 ≤ maxLen) (ml4 : n4 ≤ maxLen) (b0 : ∀ i, 0 ≤ z0.getD i 0 ∧ z0.getD i 0 ≤ 255) (b4 : ∀ i, 0 ≤ z4.getD i 0 ∧ z4.getD i 0 ≤ 65535) (l4 : z4.length = n4) (hs0 : 0 ≤ sh) (hs1 : sh ≤ 4294967295) :
    Calls Try.prog 5 #[.slice a0 n0 c0, .slice a1 n1 c1, .int .u32 sh, .bool rv, .slice a4 n4 c4] w (Yes w) := by
  have R0 := hide r0
  have R1 := hide r1
  have R4 := hide r4
  have NL0 := hide nl0
  have NL1 := hide nl1
  have NL4 := hide nl4
  have B0 := hide b0
  have B4 := hide b4
  have L4 := hide l4
  have HBY := hide (bytes21_any a0 n0 c0 a1 n1 c1 a4 n4 c4 sh rv w ml0 ml1 ml4)
  have m0 : (n0 : Int) ≤ 9223372036854775807 := by unfold maxLen at ml0; omega
  have m1 : (n1 : Int) ≤ 9223372036854775807 := by unfold maxLen at ml1; omega
  have m4 : (n4 : Int) ≤ 9223372036854775807 := by unfold maxLen at ml4; omega
  clear r0 r1 r4 nl0 nl1 nl4 b0 b4 l4 ml0 ml1 ml4
  have hy : Hid (Yes w (.returned (.bool true)) w) := Yes.mk (Below.refl _ _)
  go_enter Try.func5, Try.ntmps5
  go_wp2_with fail
  refine HBY.out.mono ?_
  rintro e w1 ⟨b, rfl, rfl⟩
  cases b with
  | false =>
    go_wp2
    go_ret
    exact hy.out
  | true =>
  by_cases g0 : n0 ≤ 4096
  case neg =>
    go_wp2
    go_ret
    exact hy.out
  by_cases g1 : n1 ≤ 4096
  case neg =>
    go_wp2
    go_ret
    exact hy.out
  by_cases g4 : n4 ≤ 4096
  case neg =>
    go_wp2
    go_ret
    exact hy.out
  have K8 := hide (copyU8_any a0 n0 c0 z0 w1 R0.out NL0.out g0)
  go_wp2_with fail
  refine K8.out.mono ?_
  rintro e w2 ⟨x0, y0, rfl, r0, be2⟩
  have R0' := hide r0
  have BE2 := hide be2
  have K9 := hide (copyU64_any a1 n1 c1 z1 w2 (R1.out.below be2) NL1.out g1)
  clear r0 be2
  go_wp2_with fail
  refine K9.out.mono ?_
  rintro e w3 ⟨x1, y1, rfl, r1, be3⟩
  have R1' := hide r1
  have R0'' := hide (R0'.out.below be3)
  have BE3 := hide (BE2.out.trans (be3.mono BE2.out.size))
  have K22 := hide (copyU16_any a4 n4 c4 z4 w3 (R4.out.below BE3.out) NL4.out g4)
  clear r1 be3
  go_wp2_with fail
  refine K22.out.mono ?_
  rintro e w4 ⟨x4, y4, rfl, r4, be4⟩
  have R4' := hide r4
  have BE4 := hide (BE3.out.trans (be4.mono BE3.out.size))
  have K10 := hide (pieces_any x0 n0 y0 x1 n1 y1 z0 z1 w4 (R0''.out.below be4) (R1'.out.below be4) g0 g1 B0.out)
  obtain ⟨hgd, hlen⟩ := allPs_good z0 z1 n0 n1 g0 B0.out
  generalize allPs z0 z1 n0 n1 = ps at K10 hgd hlen
  have HG := hide hgd
  clear r4 be4 hgd
  go_wp2_with fail
  refine K10.out.mono ?_
  rintro e w5 ⟨xp, yp, rfl, hps, be5⟩
  have HPS := hide hps
  have R45 := hide (R4'.out.below be5)
  have BE5 := hide (BE4.out.trans (be5.mono BE4.out.size))
  have K11 := hide (tree_any xp ps.length yp ps HG.out hlen sh hs0 hs1 ps.length 0 ps.length w5 (by omega) (Nat.le_refl _) (by omega) hps)
  clear hps be5
  go_wp2_with fail
  refine K11.out.mono ?_
  rintro e w6 ⟨D, rfl, ht, be6⟩
  have HTREE := hide ht
  have HPS6 := hide (HPS.out.below be6)
  have BE6 := hide (BE5.out.trans (be6.mono BE5.out.size))
  have K23 := hide (run_any x4 n4 y4 z4 w6 (R45.out.below be6) L4.out B4.out g4)
  clear ht be6
  obtain ⟨P, hP⟩ : ∃ P, ptrB (rootp sh D 0 ps.length) = .pointer P := ⟨_, rfl⟩
  rw [hP]
  have HP := hide hP
  clear hP
  go_wp2_with fail
  refine K23.out.mono ?_
  rintro e w0 ⟨xq, yq, rfl, rq, be7⟩
  have HRQ := hide rq
  have HPS0 := hide (HPS6.out.below be7)
  have HT : Hid (Tr w0 ps sh D) := ⟨HG.out, hlen, Tree.below be7 _ _ _ HTREE.out⟩
  have BE0 := hide (BE6.out.trans (be7.mono BE6.out.size))
  clear rq be7 HTREE HPS6 BE6 K23 K11 K10 K22 K9 K8 HBY R0 R1 R4 NL0 NL1 NL4 R0' R0'' R1' R4' R45 BE2 BE3 BE4 BE5 HPS hy
  go_wp2_with fail
  refine (newCur_any w0 P rv).mono ?_
  rintro e wn ⟨rfl, hwn⟩
  have HN : Hid (∃ c M, Ready rv w0 wn ps sh D w0.heap.size c M ((sums z4).getD (ask rv n4 0) 0)) := by
    refine ⟨newC (.pointer P) rv, [], ?_⟩
    rw [hwn]
    unfold Ready
    cases rv
    · exact Or.inr ⟨newCur_in _ _ _ _, rfl, rfl, HP.out.symm⟩
    · exact Or.inr ⟨newCur_in _ _ _ _, rfl, rfl, HP.out.symm⟩
  generalize hcb : w0.heap.size = cb at HN ⊢
  have HCB := hide hcb
  clear hwn hcb
  obtain ⟨c0', M0', hN⟩ := HN.out
  have HN' := hide hN
  clear HN hN
  go_wp2_with fail
  go_loopg [15] n4 (fun k x wr => ∃ (j : Nat) (c : Cr) (M : List Nat), j ≤ n4 ∧ n4 - j ≤ k ∧ x = .int .i64 j ∧ CurIn w0 wr D cb c M ∧ (j < n4 → Ready rv w0 wr ps sh D cb c M ((sums z4).getD (ask rv n4 j) 0)))
  case atStart => exact ⟨0, c0', M0', by omega, by omega, rfl, HN'.out.cur, fun _ => HN'.out⟩
  case round =>
    obtain ⟨j, c, M, hj, hk, rfl, hcur, hrd⟩ := hrel
    have HCUR := hide hcur
    have HRD := hide hrd
    clear hcur hrd HN'
    by_cases hlt : j < n4
    · obtain ⟨bq, oq, rfl, hcell⟩ := HRQ.out (by omega)
      have hJ : ask rv n4 j < n4 := by unfold ask; split <;> omega
      have hc0 := hcell _ hJ
      unfold u32At at hc0
      have hbd := sums_bd z4 B4.out (by rw [L4.out]; omega) (ask rv n4 j)
      have hnx : Hid (j + 1 < n4 → ∀ {w'' : World} {c' : Cr} {M' : List Nat}, Ready rv w0 w'' ps sh D cb c' M' ((sums z4).getD (ask rv n4 j) 0) → Ready rv w0 w'' ps sh D cb c' M' ((sums z4).getD (ask rv n4 (j + 1)) 0)) := by
        intro hj1 w'' c' M' hR
        unfold ask at hR ⊢
        cases rv
        · exact hR.fwd (sums_mono z4 B4.out (by simp) (by rw [L4.out]; simpa using hj1))
        · exact hR.rev (sums_mono z4 B4.out (by simp; omega) (by rw [L4.out]; simp; omega))
      have HR := hide (HRD.out hlt)
      have HPSr := hide (HPS0.out.below HCUR.out.bel)
      have hask : ∀ (x : Nat), rv = true → ask rv n4 x = n4 - 1 - x := fun x e => by unfold ask; rw [e]; rfl
      have hask0 : ∀ (x : Nat), rv = false → ask rv n4 x = x := fun x e => by unfold ask; rw [e]; rfl
      have hj2 : ask rv n4 j = if rv then n4 - 1 - j else j := rfl
      generalize (sums z4).getD (ask rv n4 j) 0 = q at hc0 hbd HR hnx
      generalize ask rv n4 j = J at hc0 hJ hj2
      have HQ : Hid (∀ w'', Below w0.heap.size w0 w'' → w''.cell? ⟨bq, oq + J, none⟩ = some (.int .u32 q)) := by
        intro w'' hb
        rw [hb.cell (by exact World.block_lt_of_cell? w0 _ hc0)]
        exact hc0
      have hc := HQ.out _ HCUR.out.bel
      have hpr := HPSr.out
      have hcd := HQ.out _ (HCUR.out.same (Same.refl _).drew).bel
      have hpd := HPSr.out.below (Same.below _ (Same.refl _).drew)
      have HE := hide (enc_any wr.drew q hbd.1 (by omega))
      have HK : Hid (KeyB (wr.drew.alloc (.cells (encA q) 5)) (some ⟨wr.drew.heap.size, 0, none⟩) (enc q).length (enc q)) := KeyB.enc (Blk.made _ _ _) hbd.1 (by omega)
      have HD24 := hide (del24_any (kc := (enc q).length) HT.out ((HR.out.same (Same.refl _).drew).alloc _) hbd.1 (by omega) HK.out)
      have HM : Hid (∀ w', PsIn w' xp ps.length ps → Calls Try.prog 25 #[.slice xp ps.length yp, .int .u32 q] w' fun e w'' => e = .returned (.int .u64 (ans ps q)) ∧ w'' = w') := fun w' hp => model_any hp HG.out q (by omega)
      have HPSa := hpd.below ((Below.refl _ _).alloc (Nat.le_refl _) (.cells (encA q) 5))
      have hca := HQ.out _ ((HCUR.out.same (Same.refl _).drew).alloc (.cells (encA q) 5)).bel
      generalize (enc q).length = ln at HE HD24
      generalize wr.drew.alloc (.cells (encA q) 5) = wa at HE HD24 HPSa hca
      generalize hbl : Value.slice (some ⟨wr.drew.heap.size, 0, none⟩) ln ln = ky at HE HD24
      have hkv : ∃ ka, ky = .slice (some ka) ln ln := ⟨_, hbl.symm⟩
      obtain ⟨ka, rfl⟩ := hkv
      have hfin : Hid (∀ (w'' : World) (c' : Cr) (M' : List Nat), Ready rv w0 w'' ps sh D cb c' M' q → ∃ (j' : Nat) (c : Cr) (M : List Nat), j' ≤ n4 ∧ n4 - j' ≤ n4 - (j + 1) ∧ Value.int .i64 ((j : Int) + 1) = .int .i64 j' ∧ CurIn w0 w'' D cb c M ∧ (j' < n4 → Ready rv w0 w'' ps sh D cb c M ((sums z4).getD (ask rv n4 j') 0))) := by
        intro w'' c' M' hR
        exact ⟨j + 1, c', M', by omega, by omega, by simp, hR.cur, fun hl => hnx.out hl hR⟩
      clear hbl hc0 hcell HR HRD HCUR HPSr HK hnx hask hask0
      cases rv
      · have hjj : J = j := by simpa using hj2
        subst hjj
        clear hj2
        go_wp2_with fail
        go_region_held3 (fun w' => w'.cell? ⟨bq, oq + J, none⟩ = some (.int .u32 q) ∧ PsIn w' xp ps.length ps) (first | exact ⟨by assumption, by assumption⟩ | simp [*])
          (first
          | (go_at_call 14; refine HE.out.mono ?_; rintro e w' ⟨rfl, rfl⟩)
          | (go_at_call 24; refine HD24.out.mono ?_; rintro e w' ⟨c', M', rfl, hR⟩; have hq' := HQ.out _ hR.cur.bel; have hp' := HPS0.out.below hR.cur.bel; have HR' := hide hR; clear hR)
          | (go_at_call 25; refine (HM.out _ (by assumption)).mono ?_; rintro e w' ⟨rfl, rfl⟩))
        go_wp2
        go_roundg (n4 - (J + 1))
        case measure => omega
        case rel => exact hfin.out _ _ _ HR'.out
      · have hjj : ((n4 : Int) - 1) - (j : Int) = (J : Int) := by have : J = n4 - 1 - j := by simpa using hj2
                                                                  omega
        clear hj2
        go_wp2_with fail
        go_region_held3 (fun w' => w'.cell? ⟨bq, oq + J, none⟩ = some (.int .u32 q) ∧ PsIn w' xp ps.length ps) (first | exact ⟨by assumption, by assumption⟩ | simp [*])
          (first
          | (go_at_call 14; refine HE.out.mono ?_; rintro e w' ⟨rfl, rfl⟩)
          | (go_at_call 24; refine HD24.out.mono ?_; rintro e w' ⟨c', M', rfl, hR⟩; have hq' := HQ.out _ hR.cur.bel; have hp' := HPS0.out.below hR.cur.bel; have HR' := hide hR; clear hR)
          | (go_at_call 25; refine (HM.out _ (by assumption)).mono ?_; rintro e w' ⟨rfl, rfl⟩))
        go_wp2
        go_roundg (n4 - (j + 1))
        case measure => omega
        case rel => exact hfin.out _ _ _ HR'.out
    · have hjn : j = n4 := by omega
      have hy : Hid (Yes w1 (.returned (.bool true)) wr) := Yes.mk (BE0.out.trans (HCUR.out.bel.mono BE0.out.size))
      go_wp2
      go_ret
      exact hy.out

end Go.Proofs.Qxb6000727a
