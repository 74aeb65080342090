/-
  FnSetDateAgreesWithCalendarModel (4): the walk.
-/
import Derived.Test.Qxb6601738aModall
import Derived.Test.Qxb6601738aEq
set_option linter.unusedSimpArgs false
set_option linter.unusedVariables false
namespace Go.Proofs.Qxb6601738a
open Go.RowKit

def Yes (w : World) (e : Ending) (w' : World) : Prop := e = .returned (.bool true) ∧ Below w.heap.size w w'
theorem Yes.mk {w w' : World} (h : Below w.heap.size w w') : Yes w (.returned (.bool true)) w' := ⟨rfl, h⟩

set_option maxHeartbeats 800000 in
theorem law4_late (w : World) (f : P8) (yr mo d now : Int) (p : Option Addr) (hl : 9223372036853911807 < now) (hn1 : now ≤ 9223372036854775807) :
    Calls Try.prog 4 #[.agg f.arr, .int .i32 yr, .int .i32 mo, .int .i32 d, .pointer p, .int .i64 now] w (Yes w) := by
  have HB : Hid (∀ o, Below w.heap.size w (w.alloc o)) := fun o => (Below.refl _ _).alloc (Nat.le_refl _) o
  unfold P8.arr parts
  go_enter Try.func4, Try.ntmps4
  go_wp2
  go_ret
  exact Yes.mk (HB.out _)

set_option maxHeartbeats 800000 in
theorem law4_nil (w : World) (f : P8) (yr mo d now : Int) (hy : I32 yr) (hm : I32 mo) (hd : I32 d) (hn0 : -9223372036854775808 ≤ now) (hn1 : now ≤ 9223372036854775807) :
    Calls Try.prog 4 #[.agg f.arr, .int .i32 yr, .int .i32 mo, .int .i32 d, .pointer none, .int .i64 now] w (Yes w) := by
  by_cases hl : 9223372036853911807 < now
  · exact law4_late w f yr mo d now none hl hn1
  have HZ := hide (fun w' => zz_nil w' f yr mo d now hy hm hd)
  have HM := hide (fun w' => modNil_any w' f yr mo d now hy hm hd)
  obtain ⟨r, hr⟩ : ∃ r, setNil f yr mo d = r := ⟨_, rfl⟩
  rw [hr] at HZ HM
  clear hr hy hm hd
  unfold P8.arr parts at HZ HM ⊢
  go_enter Try.func4, Try.ntmps4
  go_wp2_with fail
  refine (HZ.out _).mono ?_
  rintro e w2 ⟨rfl, hB⟩
  have hF : Blk w2 w.heap.size f.arr 26 := (Blk.made w f.arr 26).keep (hB.block _ (by simp))
  have HB2 : Hid (Below w.heap.size w w2) := ((Below.refl _ _).alloc (Nat.le_refl _) _).trans (hB.mono (by simp))
  have HF := hide hF
  obtain ⟨k0, k1, k2, k3, k4, k5, k6, k7⟩ : w2.cell? ⟨w.heap.size, 0, none⟩ = some (.int .i32 f.y) ∧ w2.cell? ⟨w.heap.size, 1, none⟩ = some (.int .i32 f.mo) ∧ w2.cell? ⟨w.heap.size, 2, none⟩ = some (.int .i32 f.d) ∧ w2.cell? ⟨w.heap.size, 3, none⟩ = some (.int .i32 f.h) ∧ w2.cell? ⟨w.heap.size, 4, none⟩ = some (.int .i32 f.mi) ∧ w2.cell? ⟨w.heap.size, 5, none⟩ = some (.int .i32 f.s) ∧ w2.cell? ⟨w.heap.size, 6, none⟩ = some (.int .i32 f.wd) ∧ w2.cell? ⟨w.heap.size, 7, none⟩ = some (.int .i32 f.ds) :=
    ⟨hF.cell 0, hF.cell 1, hF.cell 2, hF.cell 3, hF.cell 4, hF.cell 5, hF.cell 6, hF.cell 7⟩
  have hlt : w.heap.size < w2.heap.size := hF.lt
  clear hB hF HZ
  unfold P8.arr parts
  go_wp2_with fail
  refine (HM.out _).mono ?_
  rintro e w3 ⟨rfl, hB3⟩
  have hG : Blk w3 w2.heap.size r.1.arr 26 := (Blk.made w2 r.1.arr 26).keep (hB3.block _ (by simp))
  have HB3 : Hid (Below w.heap.size w w3) := (HB2.out.alloc (by omega) _).trans (hB3.mono (by simp; omega))
  obtain ⟨g0, g1, g2, g3, g4, g5, g6, g7⟩ : w3.cell? ⟨w2.heap.size, 0, none⟩ = some (.int .i32 r.1.y) ∧ w3.cell? ⟨w2.heap.size, 1, none⟩ = some (.int .i32 r.1.mo) ∧ w3.cell? ⟨w2.heap.size, 2, none⟩ = some (.int .i32 r.1.d) ∧ w3.cell? ⟨w2.heap.size, 3, none⟩ = some (.int .i32 r.1.h) ∧ w3.cell? ⟨w2.heap.size, 4, none⟩ = some (.int .i32 r.1.mi) ∧ w3.cell? ⟨w2.heap.size, 5, none⟩ = some (.int .i32 r.1.s) ∧ w3.cell? ⟨w2.heap.size, 6, none⟩ = some (.int .i32 r.1.wd) ∧ w3.cell? ⟨w2.heap.size, 7, none⟩ = some (.int .i32 r.1.ds) :=
    ⟨hG.cell 0, hG.cell 1, hG.cell 2, hG.cell 3, hG.cell 4, hG.cell 5, hG.cell 6, hG.cell 7⟩
  have hlt3 : w2.heap.size < w3.heap.size := hG.lt
  have HB4 : Hid (∀ o, Below w.heap.size w (w3.alloc o)) := fun o => HB3.out.alloc (by omega) o
  clear hB3 hG HM
  have heq := eql_parts r.1.y r.1.mo r.1.d r.1.h r.1.mi r.1.s r.1.wd r.1.ds
  unfold P8.arr parts
  go_wp2
  go_ret
  exact Yes.mk (HB4.out _)

set_option maxHeartbeats 800000 in
theorem law4_ref (w : World) (f g : P8) (ok : f.ok) (okg : g.ok) (yr mo d now : Int) (hy : I32 yr) (hm : I32 mo) (hd : I32 d) (hn0 : -9223372036854775808 ≤ now) (hn1 : now ≤ 9223372036854775807) (b off : Nat) (hc : ∀ i, i < 8 → w.cell? ⟨b, off + i, none⟩ = g.arr[i]?) :
    Calls Try.prog 4 #[.agg f.arr, .int .i32 yr, .int .i32 mo, .int .i32 d, .pointer (some ⟨b, off, none⟩), .int .i64 now] w (Yes w) := by
  by_cases hl : 9223372036853911807 < now
  · exact law4_late w f yr mo d now _ hl hn1
  have r0 : w.cell? ⟨b, off, none⟩ = some (.int .i32 g.y) := hc 0 (by omega)
  have r1 : w.cell? ⟨b, off + 1, none⟩ = some (.int .i32 g.mo) := hc 1 (by omega)
  have r2 : w.cell? ⟨b, off + 2, none⟩ = some (.int .i32 g.d) := hc 2 (by omega)
  have r3 : w.cell? ⟨b, off + 3, none⟩ = some (.int .i32 g.h) := hc 3 (by omega)
  have r4 : w.cell? ⟨b, off + 4, none⟩ = some (.int .i32 g.mi) := hc 4 (by omega)
  have r5 : w.cell? ⟨b, off + 5, none⟩ = some (.int .i32 g.s) := hc 5 (by omega)
  have r6 : w.cell? ⟨b, off + 6, none⟩ = some (.int .i32 g.wd) := hc 6 (by omega)
  have r7 : w.cell? ⟨b, off + 7, none⟩ = some (.int .i32 g.ds) := hc 7 (by omega)
  have hbl : b < w.heap.size := World.block_lt_of_cell? w _ r0
  have HZ := hide (fun w' (h : Blk w' (w.heap.size + 1) g.arr 26) => zz_ref w' f g ok yr mo d now hy hm hd okg.y hn0 (by omega) h)
  have HM := hide (fun w' (h : Blk w' (w.heap.size + 1) g.arr 26) => modRef_any w' f ok yr mo d g.y now hy hm hd okg.y hn0 (by omega) (h.cell 0))
  have HR1 : Hid (Blk ((w.alloc (.cells f.arr 26)).alloc (.cells g.arr 26)) (w.heap.size + 1) g.arr 26) := by
    have := Blk.made (w.alloc (.cells f.arr 26)) g.arr 26
    rw [World.size_alloc] at this
    exact this
  obtain ⟨r, hr⟩ : ∃ r, setRef f yr mo d g.y now = r := ⟨_, rfl⟩
  rw [hr] at HZ HM
  have HGA : Hid (∀ w', Blk w' (w.heap.size + 1) g.arr 26 → Blk w' (w.heap.size + 1) g.arr 26) := fun _ h => h
  clear hr hy hm hd hc ok okg
  have HZ' := hide (HZ.out _ HR1.out)
  unfold P8.arr parts at HZ' ⊢
  go_enter Try.func4, Try.ntmps4
  go_wp2_with fail
  refine HZ'.out.mono ?_
  rintro e w2 ⟨rfl, hB⟩
  have hF : Blk w2 w.heap.size f.arr 26 := ((Blk.made w f.arr 26).alloc _).keep (hB.block _ (by simp; omega))
  have HR2 : Hid (Blk w2 (w.heap.size + 1) g.arr 26) := HR1.out.keep (hB.block _ (by simp))
  have HB2 : Hid (Below w.heap.size w w2) := (((Below.refl _ _).alloc (Nat.le_refl _) _).alloc (by simp) _).trans (hB.mono (by simp; omega))
  obtain ⟨k0, k1, k2, k3, k4, k5, k6, k7⟩ : w2.cell? ⟨w.heap.size, 0, none⟩ = some (.int .i32 f.y) ∧ w2.cell? ⟨w.heap.size, 1, none⟩ = some (.int .i32 f.mo) ∧ w2.cell? ⟨w.heap.size, 2, none⟩ = some (.int .i32 f.d) ∧ w2.cell? ⟨w.heap.size, 3, none⟩ = some (.int .i32 f.h) ∧ w2.cell? ⟨w.heap.size, 4, none⟩ = some (.int .i32 f.mi) ∧ w2.cell? ⟨w.heap.size, 5, none⟩ = some (.int .i32 f.s) ∧ w2.cell? ⟨w.heap.size, 6, none⟩ = some (.int .i32 f.wd) ∧ w2.cell? ⟨w.heap.size, 7, none⟩ = some (.int .i32 f.ds) :=
    ⟨hF.cell 0, hF.cell 1, hF.cell 2, hF.cell 3, hF.cell 4, hF.cell 5, hF.cell 6, hF.cell 7⟩
  have hlt : w.heap.size < w2.heap.size := hF.lt
  clear hB hF HZ HZ' r0 r1 r2 r3 r4 r5 r6 r7
  have HM' := hide (HM.out _ (HR2.out.alloc (.cells r.1.arr 26)))
  unfold P8.arr parts at HM'
  unfold P8.arr parts
  go_wp2_with fail
  refine HM'.out.mono ?_
  rintro e w3 ⟨rfl, hB3⟩
  have hG : Blk w3 w2.heap.size r.1.arr 26 := (Blk.made w2 r.1.arr 26).keep (hB3.block _ (by simp))
  have HB3 : Hid (Below w.heap.size w w3) := (HB2.out.alloc (by omega) _).trans (hB3.mono (by simp; omega))
  obtain ⟨g0, g1, g2, g3, g4, g5, g6, g7⟩ : w3.cell? ⟨w2.heap.size, 0, none⟩ = some (.int .i32 r.1.y) ∧ w3.cell? ⟨w2.heap.size, 1, none⟩ = some (.int .i32 r.1.mo) ∧ w3.cell? ⟨w2.heap.size, 2, none⟩ = some (.int .i32 r.1.d) ∧ w3.cell? ⟨w2.heap.size, 3, none⟩ = some (.int .i32 r.1.h) ∧ w3.cell? ⟨w2.heap.size, 4, none⟩ = some (.int .i32 r.1.mi) ∧ w3.cell? ⟨w2.heap.size, 5, none⟩ = some (.int .i32 r.1.s) ∧ w3.cell? ⟨w2.heap.size, 6, none⟩ = some (.int .i32 r.1.wd) ∧ w3.cell? ⟨w2.heap.size, 7, none⟩ = some (.int .i32 r.1.ds) :=
    ⟨hG.cell 0, hG.cell 1, hG.cell 2, hG.cell 3, hG.cell 4, hG.cell 5, hG.cell 6, hG.cell 7⟩
  have hlt3 : w2.heap.size < w3.heap.size := hG.lt
  have HB4 : Hid (∀ o, Below w.heap.size w (w3.alloc o)) := fun o => HB3.out.alloc (by omega) o
  clear hB3 hG HM HM'
  have heq := eql_parts r.1.y r.1.mo r.1.d r.1.h r.1.mi r.1.s r.1.wd r.1.ds
  unfold P8.arr parts
  go_wp2
  go_ret
  exact Yes.mk (HB4.out _)

end Go.Proofs.Qxb6601738a
