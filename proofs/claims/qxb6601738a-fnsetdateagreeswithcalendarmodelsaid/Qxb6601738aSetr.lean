/-
  (*dateFields).setDate (26), with a reference.
-/
import Derived.Test.Qxb6601738aSet
set_option linter.unusedSimpArgs false
set_option linter.unusedVariables false
namespace Go.Proofs.Qxb6601738a
open Go.RowKit

/-- What epochSeconds answers. -/
def specified (y mo d h mi s : Int) : Int := if (0 ≤ y - 70 ∧ y - 70 ≤ 129) ∧ 0 ≤ h ∧ 0 ≤ mi ∧ 0 ≤ s then secs y mo d h mi s else -1

theorem epoch_any {w : World} {b : Nat} {f : P8} (hb : Blk w b f.arr 45) (ok : f.ok) (hm0 : 0 ≤ f.mo) (hm1 : f.mo ≤ 11) (hd0 : 1 ≤ f.d) (hd1 : f.d ≤ 31) :
    Calls Try.prog 32 #[.pointer (some ⟨b, 0, none⟩)] w (Epoch w (specified f.y f.mo f.d f.h f.mi f.s)) := by
  unfold specified
  by_cases hr : (0 ≤ f.y - 70 ∧ f.y - 70 ≤ 129) ∧ 0 ≤ f.h ∧ 0 ≤ f.mi ∧ 0 ≤ f.s
  · rw [if_pos hr]
    obtain ⟨⟨r1, r2⟩, r3, r4, r5⟩ := hr
    obtain ⟨m, hm⟩ : ∃ m : Nat, f.mo = (m : Int) := ⟨f.mo.toNat, by omega⟩
    have h1 := ok.h.2
    have h2 := ok.mi.2
    have h3 := ok.s.2
    have hb' : Blk w b (parts f.y m f.d f.h f.mi f.s f.wd f.ds) 45 := by rw [← hm]; exact hb
    rw [hm]
    exact epoch_yes hb' r1 r2 (by omega) hd0 hd1 r3 h1 r4 h2 r5 h3
  · rw [if_neg hr]
    exact epoch_no hb ok.y ok.mo ok.h ok.mi ok.s (by omega)

theorem secs_bd {y mo d h mi s : Int} (h1 : 0 ≤ y - 70) (h2 : y - 70 ≤ 129) (hd0 : 1 ≤ d) (hd1 : d ≤ 31) (hh0 : 0 ≤ h) (hh1 : h ≤ 2147483647) (hi0 : 0 ≤ mi) (hi1 : mi ≤ 2147483647) (hs0 : 0 ≤ s) (hs1 : s ≤ 2147483647) : 0 ≤ secs y mo d h mi s ∧ secs y mo d h mi s ≤ 100000000000000 := by
  have := cum_bd mo
  unfold secs
  generalize cum mo = C at this
  split <;> omega

theorem specified_bd {y mo d h mi s : Int} (hd0 : 1 ≤ d) (hd1 : d ≤ 31) (hh1 : I32 h) (hi1 : I32 mi) (hs1 : I32 s) : -1 ≤ specified y mo d h mi s ∧ specified y mo d h mi s ≤ 100000000000000 := by
  unfold specified I32 at *
  split
  · rename_i hr
    have := secs_bd (mo := mo) hr.1.1 hr.1.2 hd0 hd1 hr.2.1 hh1.2 hr.2.2.1 hi1.2 hr.2.2.2 hs1.2
    omega
  · omega

/-- 'late' as the code asks it. -/
theorem late_iff {ty mo d h mi s now : Int} (hd0 : 1 ≤ d) (hd1 : d ≤ 31) (hh1 : I32 h) (hi1 : I32 mi) (hs1 : I32 s) : (late ty mo d h mi s now = true → specified ty (mo - 1) d h mi s ≠ -1 ∧ now + 864000 < specified ty (mo - 1) d h mi s) ∧ (late ty mo d h mi s now = false → specified ty (mo - 1) d h mi s = -1 ∨ specified ty (mo - 1) d h mi s ≤ now + 864000) := by
  unfold late specified I32 at *
  split
  · rename_i hr
    have := secs_bd (mo := mo - 1) hr.1.1 hr.1.2 hd0 hd1 hr.2.1 hh1.2 hr.2.2.1 hi1.2 hr.2.2.2 hs1.2
    constructor
    · intro hl
      have := (of_decide_eq_true hl).2
      omega
    · intro hl
      have := of_decide_eq_false hl
      right
      have : ¬ (now + 864000 < secs ty (mo - 1) d h mi s) := fun e => this ⟨hr, e⟩
      omega
  · rename_i hr
    constructor
    · intro hl
      exact absurd (of_decide_eq_true hl).1 hr
    · intro _
      exact Or.inl rfl

/-- The world behind the copy and the count. -/
theorem far_blk {w w3 : World} {b : Nat} {f g : P8} (hb : Blk w b f.arr 45) (hB : Below (w.alloc (.cells g.arr 45)).heap.size (w.alloc (.cells g.arr 45)) w3) : Blk w3 b f.arr 45 ∧ Blk w3 w.heap.size g.arr 45 ∧ Fr (fun k => k = b) w w3 := by
  have hl := hb.lt
  refine ⟨(hb.alloc _).keep (hB.block b (by simp; omega)), (Blk.made w g.arr 45).keep (hB.block _ (by simp)), ?_⟩
  refine ((Fr.refl (fun k => k = b) w).alloc (.cells g.arr 45)).then (Fr.of_below hB) (fun i hi => Or.inr ?_)
  simp at hi
  omega

set_option maxHeartbeats 2000000 in
theorem set_ref_a {w : World} {b rb : Nat} {f : P8} (ok : f.ok) (hb : Blk w b f.arr 45) (yr : Int) (ry mo d : Int) (now : Int) (hr : w.cell? ⟨rb, 0, none⟩ = some (.int .i32 ry)) (hry : I32 ry) (hm0 : 1 ≤ mo) (hm1 : mo ≤ 12) (hd0 : 1 ≤ d) (hd1 : d ≤ 31) (hn0 : -9223372036854775808 ≤ now) (hn1 : now ≤ 9223372036853911807) (h1 : 1970 ≤ yr) (h2 : yr < 2100) :
    Calls Try.prog 26 #[.pointer (some ⟨b, 0, none⟩), .int .i32 yr, .int .i32 mo, .int .i32 d, .pointer (some ⟨rb, 0, none⟩), .int .i64 now] w (SetAt w b (if late (yr - 1900) mo d f.h f.mi f.s now then (f, -1) else ({ f with y := yr - 1900, mo := mo - 1, d := d }, 0))) := by
  obtain ⟨k0, k1, k2, k3, k4, k5, k6, k7⟩ := P8.cell hb
  have hl := hb.lt
  have hrl : rb < w.heap.size := World.block_lt_of_cell? w _ hr
  have HB := hide hb
  have hlate := late_iff (ty := yr - 1900) (mo := mo) (now := now) hd0 hd1 ok.h ok.mi ok.s
  have hbd := specified_bd (y := yr - 1900) (mo := mo - 1) hd0 hd1 ok.h ok.mi ok.s
  have HE := hide (epoch_any (f := ({ f with y := yr - 1900, mo := mo - 1, d := d } : P8)) (Blk.made w _ 45) ⟨by unfold I32; simp only; omega, by unfold I32; simp only; omega, by unfold I32; simp only; omega, ok.h, ok.mi, ok.s, ok.wd, ok.ds⟩ (by simp only; omega) (by simp only; omega) hd0 hd1)
  simp only at HE
  obtain ⟨V, hV⟩ : ∃ V, V = specified (yr - 1900) (mo - 1) d f.h f.mi f.s := ⟨_, rfl⟩
  rw [← hV] at HE hlate hbd
  have f0 : decide (mo ≤ 0) = false := by simp; omega
  have f1 : decide (13 ≤ mo) = false := by simp; omega
  have f2 : decide (d ≤ 0) = false := by simp; omega
  have f3 : decide (32 ≤ d) = false := by simp; omega
  have e1 : (yr == -1) = false := by simp; omega
  have g1 : decide (1970 ≤ yr) = true := by simp; omega
  have g2 : decide (yr < 2100) = true := by simp; omega
  clear hb hV
  obtain ⟨v0, v1⟩ := hbd
  by_cases hlt : late (yr - 1900) mo d f.h f.mi f.s now = true
  · rw [if_pos hlt]
    obtain ⟨hva, hvb⟩ := hlate.1 hlt
    have p1 : (V == -1) = false := by simp; omega
    have p2 : decide (now + 864000 < V) = true := by simp; omega
    clear hlate hlt
    go_enter Try.func26, Try.ntmps26
    go_wp2_with fail
    refine HE.out.mono ?_
    rintro e w3 ⟨rfl, hB⟩
    obtain ⟨hb1, hb2, hb3⟩ := far_blk HB.out hB
    obtain ⟨j0, j1, j2, _⟩ := P8.cell hb2
    obtain ⟨i0, i1, i2, _⟩ := P8.cell hb1
    have kf := hb1.free
    have B1 := hide hb1
    have B3 := hide hb3
    simp only at j0 j1 j2
    clear hb1 hb2 hb3 hB HE
    have hfin : Hid (SetAt w b (f, -1) (.returned (.int .i64 (-1))) w3) := SetAt.mk (r := (f, -1)) B1.out B3.out
    go_wp2
    go_ret
    exact hfin.out
  · rw [if_neg hlt]
    have hvc := hlate.2 (by simpa using hlt)
    clear hlate hlt
    by_cases hv1 : V = -1
    · subst hv1
      clear hvc
      go_enter Try.func26, Try.ntmps26
      go_wp2_with fail
      refine HE.out.mono ?_
      rintro e w3 ⟨rfl, hB⟩
      obtain ⟨hb1, hb2, hb3⟩ := far_blk HB.out hB
      obtain ⟨j0, j1, j2, _⟩ := P8.cell hb2
      obtain ⟨i0, i1, i2, _⟩ := P8.cell hb1
      have kf := hb1.free
      have B1 := hide hb1
      have B3 := hide hb3
      simp only at j0 j1 j2
      clear hb1 hb2 hb3 hB HE
      have hfin : Hid (SetAt w b ({ f with y := yr - 1900, mo := mo - 1, d := d }, 0) (.returned (.int .i64 0)) (((w3.setCell ⟨b, 1, none⟩ (.int .i32 (mo - 1))).setCell ⟨b, 2, none⟩ (.int .i32 d)).setCell ⟨b, 0, none⟩ (.int .i32 (yr - 1900)))) :=
        SetAt.mk (r := ({ f with y := yr - 1900, mo := mo - 1, d := d }, 0)) ((md_blk B1.out _ _).set 0 _) ((B3.out.trans (md_fr _ _ _ _)).set (p := ⟨b, 0, none⟩) rfl _)
      go_wp2
      go_region
      all_goals (try go_wp2)
      all_goals
        go_ret
        exact hfin.out.same (Same.refl _).drew
    · have p1 : (V == -1) = false := by simp; omega
      have p2 : decide (now + 864000 < V) = false := by simp; omega
      clear hvc
      go_enter Try.func26, Try.ntmps26
      go_wp2_with fail
      refine HE.out.mono ?_
      rintro e w3 ⟨rfl, hB⟩
      obtain ⟨hb1, hb2, hb3⟩ := far_blk HB.out hB
      obtain ⟨j0, j1, j2, _⟩ := P8.cell hb2
      obtain ⟨i0, i1, i2, _⟩ := P8.cell hb1
      have kf := hb1.free
      have B1 := hide hb1
      have B3 := hide hb3
      simp only at j0 j1 j2
      clear hb1 hb2 hb3 hB HE
      have hfin : Hid (SetAt w b ({ f with y := yr - 1900, mo := mo - 1, d := d }, 0) (.returned (.int .i64 0)) (((w3.setCell ⟨b, 1, none⟩ (.int .i32 (mo - 1))).setCell ⟨b, 2, none⟩ (.int .i32 d)).setCell ⟨b, 0, none⟩ (.int .i32 (yr - 1900)))) :=
        SetAt.mk (r := ({ f with y := yr - 1900, mo := mo - 1, d := d }, 0)) ((md_blk B1.out _ _).set 0 _) ((B3.out.trans (md_fr _ _ _ _)).set (p := ⟨b, 0, none⟩) rfl _)
      go_wp2
      go_region
      all_goals (try go_wp2)
      all_goals
        go_ret
        exact hfin.out.same (Same.refl _).drew

set_option maxHeartbeats 2000000 in
theorem set_ref_b {w : World} {b rb : Nat} {f : P8} (ok : f.ok) (hb : Blk w b f.arr 45) (yr : Int) (ry mo d : Int) (now : Int) (hr : w.cell? ⟨rb, 0, none⟩ = some (.int .i32 ry)) (hry : I32 ry) (hm0 : 1 ≤ mo) (hm1 : mo ≤ 12) (hd0 : 1 ≤ d) (hd1 : d ≤ 31) (hn0 : -9223372036854775808 ≤ now) (hn1 : now ≤ 9223372036853911807) (h1 : 70 < yr) (h2 : yr < 100) :
    Calls Try.prog 26 #[.pointer (some ⟨b, 0, none⟩), .int .i32 yr, .int .i32 mo, .int .i32 d, .pointer (some ⟨rb, 0, none⟩), .int .i64 now] w (SetAt w b (if late yr mo d f.h f.mi f.s now then (f, -1) else ({ f with y := yr, mo := mo - 1, d := d }, 0))) := by
  obtain ⟨k0, k1, k2, k3, k4, k5, k6, k7⟩ := P8.cell hb
  have hl := hb.lt
  have hrl : rb < w.heap.size := World.block_lt_of_cell? w _ hr
  have HB := hide hb
  have hlate := late_iff (ty := yr) (mo := mo) (now := now) hd0 hd1 ok.h ok.mi ok.s
  have hbd := specified_bd (y := yr) (mo := mo - 1) hd0 hd1 ok.h ok.mi ok.s
  have HE := hide (epoch_any (f := ({ f with y := yr, mo := mo - 1, d := d } : P8)) (Blk.made w _ 45) ⟨by unfold I32; simp only; omega, by unfold I32; simp only; omega, by unfold I32; simp only; omega, ok.h, ok.mi, ok.s, ok.wd, ok.ds⟩ (by simp only; omega) (by simp only; omega) hd0 hd1)
  simp only at HE
  obtain ⟨V, hV⟩ : ∃ V, V = specified (yr) (mo - 1) d f.h f.mi f.s := ⟨_, rfl⟩
  rw [← hV] at HE hlate hbd
  have f0 : decide (mo ≤ 0) = false := by simp; omega
  have f1 : decide (13 ≤ mo) = false := by simp; omega
  have f2 : decide (d ≤ 0) = false := by simp; omega
  have f3 : decide (32 ≤ d) = false := by simp; omega
  have e1 : (yr == -1) = false := by simp; omega
  have g1 : decide (1970 ≤ yr) = false := by simp; omega
  have g3 : decide (70 < yr) = true := by simp; omega
  have g4 : decide (yr < 100) = true := by simp; omega
  clear hb hV
  obtain ⟨v0, v1⟩ := hbd
  by_cases hlt : late (yr) mo d f.h f.mi f.s now = true
  · rw [if_pos hlt]
    obtain ⟨hva, hvb⟩ := hlate.1 hlt
    have p1 : (V == -1) = false := by simp; omega
    have p2 : decide (now + 864000 < V) = true := by simp; omega
    clear hlate hlt
    go_enter Try.func26, Try.ntmps26
    go_wp2_with fail
    refine HE.out.mono ?_
    rintro e w3 ⟨rfl, hB⟩
    obtain ⟨hb1, hb2, hb3⟩ := far_blk HB.out hB
    obtain ⟨j0, j1, j2, _⟩ := P8.cell hb2
    obtain ⟨i0, i1, i2, _⟩ := P8.cell hb1
    have kf := hb1.free
    have B1 := hide hb1
    have B3 := hide hb3
    simp only at j0 j1 j2
    clear hb1 hb2 hb3 hB HE
    have hfin : Hid (SetAt w b (f, -1) (.returned (.int .i64 (-1))) w3) := SetAt.mk (r := (f, -1)) B1.out B3.out
    go_wp2
    go_ret
    exact hfin.out
  · rw [if_neg hlt]
    have hvc := hlate.2 (by simpa using hlt)
    clear hlate hlt
    by_cases hv1 : V = -1
    · subst hv1
      clear hvc
      go_enter Try.func26, Try.ntmps26
      go_wp2_with fail
      refine HE.out.mono ?_
      rintro e w3 ⟨rfl, hB⟩
      obtain ⟨hb1, hb2, hb3⟩ := far_blk HB.out hB
      obtain ⟨j0, j1, j2, _⟩ := P8.cell hb2
      obtain ⟨i0, i1, i2, _⟩ := P8.cell hb1
      have kf := hb1.free
      have B1 := hide hb1
      have B3 := hide hb3
      simp only at j0 j1 j2
      clear hb1 hb2 hb3 hB HE
      have hfin : Hid (SetAt w b ({ f with y := yr, mo := mo - 1, d := d }, 0) (.returned (.int .i64 0)) (((w3.setCell ⟨b, 1, none⟩ (.int .i32 (mo - 1))).setCell ⟨b, 2, none⟩ (.int .i32 d)).setCell ⟨b, 0, none⟩ (.int .i32 (yr)))) :=
        SetAt.mk (r := ({ f with y := yr, mo := mo - 1, d := d }, 0)) ((md_blk B1.out _ _).set 0 _) ((B3.out.trans (md_fr _ _ _ _)).set (p := ⟨b, 0, none⟩) rfl _)
      go_wp2
      go_region
      all_goals (try go_wp2)
      all_goals
        go_ret
        exact hfin.out.same (Same.refl _).drew
    · have p1 : (V == -1) = false := by simp; omega
      have p2 : decide (now + 864000 < V) = false := by simp; omega
      clear hvc
      go_enter Try.func26, Try.ntmps26
      go_wp2_with fail
      refine HE.out.mono ?_
      rintro e w3 ⟨rfl, hB⟩
      obtain ⟨hb1, hb2, hb3⟩ := far_blk HB.out hB
      obtain ⟨j0, j1, j2, _⟩ := P8.cell hb2
      obtain ⟨i0, i1, i2, _⟩ := P8.cell hb1
      have kf := hb1.free
      have B1 := hide hb1
      have B3 := hide hb3
      simp only at j0 j1 j2
      clear hb1 hb2 hb3 hB HE
      have hfin : Hid (SetAt w b ({ f with y := yr, mo := mo - 1, d := d }, 0) (.returned (.int .i64 0)) (((w3.setCell ⟨b, 1, none⟩ (.int .i32 (mo - 1))).setCell ⟨b, 2, none⟩ (.int .i32 d)).setCell ⟨b, 0, none⟩ (.int .i32 (yr)))) :=
        SetAt.mk (r := ({ f with y := yr, mo := mo - 1, d := d }, 0)) ((md_blk B1.out _ _).set 0 _) ((B3.out.trans (md_fr _ _ _ _)).set (p := ⟨b, 0, none⟩) rfl _)
      go_wp2
      go_region
      all_goals (try go_wp2)
      all_goals
        go_ret
        exact hfin.out.same (Same.refl _).drew

set_option maxHeartbeats 2000000 in
theorem set_ref_c {w : World} {b rb : Nat} {f : P8} (ok : f.ok) (hb : Blk w b f.arr 45) (yr : Int) (ry mo d : Int) (now : Int) (hr : w.cell? ⟨rb, 0, none⟩ = some (.int .i32 ry)) (hry : I32 ry) (hm0 : 1 ≤ mo) (hm1 : mo ≤ 12) (hd0 : 1 ≤ d) (hd1 : d ≤ 31) (hn0 : -9223372036854775808 ≤ now) (hn1 : now ≤ 9223372036853911807) (h0 : -2147483648 ≤ yr) (h1 : yr < 38) (h2 : yr ≠ -1) :
    Calls Try.prog 26 #[.pointer (some ⟨b, 0, none⟩), .int .i32 yr, .int .i32 mo, .int .i32 d, .pointer (some ⟨rb, 0, none⟩), .int .i64 now] w (SetAt w b (if late (yr + 100) mo d f.h f.mi f.s now then (f, -1) else ({ f with y := yr + 100, mo := mo - 1, d := d }, 0))) := by
  obtain ⟨k0, k1, k2, k3, k4, k5, k6, k7⟩ := P8.cell hb
  have hl := hb.lt
  have hrl : rb < w.heap.size := World.block_lt_of_cell? w _ hr
  have HB := hide hb
  have hlate := late_iff (ty := yr + 100) (mo := mo) (now := now) hd0 hd1 ok.h ok.mi ok.s
  have hbd := specified_bd (y := yr + 100) (mo := mo - 1) hd0 hd1 ok.h ok.mi ok.s
  have HE := hide (epoch_any (f := ({ f with y := yr + 100, mo := mo - 1, d := d } : P8)) (Blk.made w _ 45) ⟨by unfold I32; simp only; omega, by unfold I32; simp only; omega, by unfold I32; simp only; omega, ok.h, ok.mi, ok.s, ok.wd, ok.ds⟩ (by simp only; omega) (by simp only; omega) hd0 hd1)
  simp only at HE
  obtain ⟨V, hV⟩ : ∃ V, V = specified (yr + 100) (mo - 1) d f.h f.mi f.s := ⟨_, rfl⟩
  rw [← hV] at HE hlate hbd
  have f0 : decide (mo ≤ 0) = false := by simp; omega
  have f1 : decide (13 ≤ mo) = false := by simp; omega
  have f2 : decide (d ≤ 0) = false := by simp; omega
  have f3 : decide (32 ≤ d) = false := by simp; omega
  have e1 : (yr == -1) = false := by simp; omega
  have g1 : decide (1970 ≤ yr) = false := by simp; omega
  have g3 : decide (70 < yr) = false := by simp; omega
  have g5 : decide (yr < 38) = true := by simp; omega
  clear hb hV
  obtain ⟨v0, v1⟩ := hbd
  by_cases hlt : late (yr + 100) mo d f.h f.mi f.s now = true
  · rw [if_pos hlt]
    obtain ⟨hva, hvb⟩ := hlate.1 hlt
    have p1 : (V == -1) = false := by simp; omega
    have p2 : decide (now + 864000 < V) = true := by simp; omega
    clear hlate hlt
    go_enter Try.func26, Try.ntmps26
    go_wp2_with fail
    refine HE.out.mono ?_
    rintro e w3 ⟨rfl, hB⟩
    obtain ⟨hb1, hb2, hb3⟩ := far_blk HB.out hB
    obtain ⟨j0, j1, j2, _⟩ := P8.cell hb2
    obtain ⟨i0, i1, i2, _⟩ := P8.cell hb1
    have kf := hb1.free
    have B1 := hide hb1
    have B3 := hide hb3
    simp only at j0 j1 j2
    clear hb1 hb2 hb3 hB HE
    have hfin : Hid (SetAt w b (f, -1) (.returned (.int .i64 (-1))) w3) := SetAt.mk (r := (f, -1)) B1.out B3.out
    go_wp2
    go_ret
    exact hfin.out
  · rw [if_neg hlt]
    have hvc := hlate.2 (by simpa using hlt)
    clear hlate hlt
    by_cases hv1 : V = -1
    · subst hv1
      clear hvc
      go_enter Try.func26, Try.ntmps26
      go_wp2_with fail
      refine HE.out.mono ?_
      rintro e w3 ⟨rfl, hB⟩
      obtain ⟨hb1, hb2, hb3⟩ := far_blk HB.out hB
      obtain ⟨j0, j1, j2, _⟩ := P8.cell hb2
      obtain ⟨i0, i1, i2, _⟩ := P8.cell hb1
      have kf := hb1.free
      have B1 := hide hb1
      have B3 := hide hb3
      simp only at j0 j1 j2
      clear hb1 hb2 hb3 hB HE
      have hfin : Hid (SetAt w b ({ f with y := yr + 100, mo := mo - 1, d := d }, 0) (.returned (.int .i64 0)) (((w3.setCell ⟨b, 1, none⟩ (.int .i32 (mo - 1))).setCell ⟨b, 2, none⟩ (.int .i32 d)).setCell ⟨b, 0, none⟩ (.int .i32 (yr + 100)))) :=
        SetAt.mk (r := ({ f with y := yr + 100, mo := mo - 1, d := d }, 0)) ((md_blk B1.out _ _).set 0 _) ((B3.out.trans (md_fr _ _ _ _)).set (p := ⟨b, 0, none⟩) rfl _)
      go_wp2
      go_region
      all_goals (try go_wp2)
      all_goals
        go_ret
        exact hfin.out.same (Same.refl _).drew
    · have p1 : (V == -1) = false := by simp; omega
      have p2 : decide (now + 864000 < V) = false := by simp; omega
      clear hvc
      go_enter Try.func26, Try.ntmps26
      go_wp2_with fail
      refine HE.out.mono ?_
      rintro e w3 ⟨rfl, hB⟩
      obtain ⟨hb1, hb2, hb3⟩ := far_blk HB.out hB
      obtain ⟨j0, j1, j2, _⟩ := P8.cell hb2
      obtain ⟨i0, i1, i2, _⟩ := P8.cell hb1
      have kf := hb1.free
      have B1 := hide hb1
      have B3 := hide hb3
      simp only at j0 j1 j2
      clear hb1 hb2 hb3 hB HE
      have hfin : Hid (SetAt w b ({ f with y := yr + 100, mo := mo - 1, d := d }, 0) (.returned (.int .i64 0)) (((w3.setCell ⟨b, 1, none⟩ (.int .i32 (mo - 1))).setCell ⟨b, 2, none⟩ (.int .i32 d)).setCell ⟨b, 0, none⟩ (.int .i32 (yr + 100)))) :=
        SetAt.mk (r := ({ f with y := yr + 100, mo := mo - 1, d := d }, 0)) ((md_blk B1.out _ _).set 0 _) ((B3.out.trans (md_fr _ _ _ _)).set (p := ⟨b, 0, none⟩) rfl _)
      go_wp2
      go_region
      all_goals (try go_wp2)
      all_goals
        go_ret
        exact hfin.out.same (Same.refl _).drew

set_option maxHeartbeats 2000000 in
theorem set_ref_m {w : World} {b rb : Nat} {f : P8} (ok : f.ok) (hb : Blk w b f.arr 45) (ry mo d : Int) (now : Int) (hr : w.cell? ⟨rb, 0, none⟩ = some (.int .i32 ry)) (hry : I32 ry) (hm0 : 1 ≤ mo) (hm1 : mo ≤ 12) (hd0 : 1 ≤ d) (hd1 : d ≤ 31) (hn0 : -9223372036854775808 ≤ now) (hn1 : now ≤ 9223372036853911807) :
    Calls Try.prog 26 #[.pointer (some ⟨b, 0, none⟩), .int .i32 (-1), .int .i32 mo, .int .i32 d, .pointer (some ⟨rb, 0, none⟩), .int .i64 now] w (SetAt w b (if late ry mo d f.h f.mi f.s now then (f, -1) else ({ f with mo := mo - 1, d := d }, 0))) := by
  obtain ⟨k0, k1, k2, k3, k4, k5, k6, k7⟩ := P8.cell hb
  have hl := hb.lt
  have hrl : rb < w.heap.size := World.block_lt_of_cell? w _ hr
  have HB := hide hb
  have hlate := late_iff (ty := ry) (mo := mo) (now := now) hd0 hd1 ok.h ok.mi ok.s
  have hbd := specified_bd (y := ry) (mo := mo - 1) hd0 hd1 ok.h ok.mi ok.s
  have HE := hide (epoch_any (f := ({ f with y := ry, mo := mo - 1, d := d } : P8)) (Blk.made w _ 45) ⟨hry, by unfold I32; simp only; omega, by unfold I32; simp only; omega, ok.h, ok.mi, ok.s, ok.wd, ok.ds⟩ (by simp only; omega) (by simp only; omega) hd0 hd1)
  simp only at HE
  obtain ⟨V, hV⟩ : ∃ V, V = specified (ry) (mo - 1) d f.h f.mi f.s := ⟨_, rfl⟩
  rw [← hV] at HE hlate hbd
  have f0 : decide (mo ≤ 0) = false := by simp; omega
  have f1 : decide (13 ≤ mo) = false := by simp; omega
  have f2 : decide (d ≤ 0) = false := by simp; omega
  have f3 : decide (32 ≤ d) = false := by simp; omega
  clear hb hV
  obtain ⟨v0, v1⟩ := hbd
  by_cases hlt : late (ry) mo d f.h f.mi f.s now = true
  · rw [if_pos hlt]
    obtain ⟨hva, hvb⟩ := hlate.1 hlt
    have p1 : (V == -1) = false := by simp; omega
    have p2 : decide (now + 864000 < V) = true := by simp; omega
    clear hlate hlt
    go_enter Try.func26, Try.ntmps26
    go_wp2_with fail
    refine HE.out.mono ?_
    rintro e w3 ⟨rfl, hB⟩
    obtain ⟨hb1, hb2, hb3⟩ := far_blk HB.out hB
    obtain ⟨j0, j1, j2, _⟩ := P8.cell hb2
    obtain ⟨i0, i1, i2, _⟩ := P8.cell hb1
    have kf := hb1.free
    have B1 := hide hb1
    have B3 := hide hb3
    simp only at j0 j1 j2
    clear hb1 hb2 hb3 hB HE
    have hfin : Hid (SetAt w b (f, -1) (.returned (.int .i64 (-1))) w3) := SetAt.mk (r := (f, -1)) B1.out B3.out
    go_wp2
    go_ret
    exact hfin.out
  · rw [if_neg hlt]
    have hvc := hlate.2 (by simpa using hlt)
    clear hlate hlt
    by_cases hv1 : V = -1
    · subst hv1
      clear hvc
      go_enter Try.func26, Try.ntmps26
      go_wp2_with fail
      refine HE.out.mono ?_
      rintro e w3 ⟨rfl, hB⟩
      obtain ⟨hb1, hb2, hb3⟩ := far_blk HB.out hB
      obtain ⟨j0, j1, j2, _⟩ := P8.cell hb2
      obtain ⟨i0, i1, i2, _⟩ := P8.cell hb1
      have kf := hb1.free
      have B1 := hide hb1
      have B3 := hide hb3
      simp only at j0 j1 j2
      clear hb1 hb2 hb3 hB HE
      have hfin : Hid (SetAt w b ({ f with mo := mo - 1, d := d }, 0) (.returned (.int .i64 0)) ((w3.setCell ⟨b, 1, none⟩ (.int .i32 (mo - 1))).setCell ⟨b, 2, none⟩ (.int .i32 d))) :=
        SetAt.mk (r := ({ f with mo := mo - 1, d := d }, 0)) (md_blk B1.out _ _) (B3.out.trans (md_fr _ _ _ _))
      go_wp2
      go_region
      all_goals (try go_wp2)
      all_goals
        go_ret
        exact hfin.out.same (Same.refl _).drew
    · have p1 : (V == -1) = false := by simp; omega
      have p2 : decide (now + 864000 < V) = false := by simp; omega
      clear hvc
      go_enter Try.func26, Try.ntmps26
      go_wp2_with fail
      refine HE.out.mono ?_
      rintro e w3 ⟨rfl, hB⟩
      obtain ⟨hb1, hb2, hb3⟩ := far_blk HB.out hB
      obtain ⟨j0, j1, j2, _⟩ := P8.cell hb2
      obtain ⟨i0, i1, i2, _⟩ := P8.cell hb1
      have kf := hb1.free
      have B1 := hide hb1
      have B3 := hide hb3
      simp only at j0 j1 j2
      clear hb1 hb2 hb3 hB HE
      have hfin : Hid (SetAt w b ({ f with mo := mo - 1, d := d }, 0) (.returned (.int .i64 0)) ((w3.setCell ⟨b, 1, none⟩ (.int .i32 (mo - 1))).setCell ⟨b, 2, none⟩ (.int .i32 d))) :=
        SetAt.mk (r := ({ f with mo := mo - 1, d := d }, 0)) (md_blk B1.out _ _) (B3.out.trans (md_fr _ _ _ _))
      go_wp2
      go_region
      all_goals (try go_wp2)
      all_goals
        go_ret
        exact hfin.out.same (Same.refl _).drew

end Go.Proofs.Qxb6601738a
