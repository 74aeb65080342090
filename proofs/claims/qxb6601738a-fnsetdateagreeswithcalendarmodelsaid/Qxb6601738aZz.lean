/-
  ZZSetDate (12).
-/
import Derived.Test.Qxb6601738aCal
set_option linter.unusedSimpArgs false
set_option linter.unusedVariables false
namespace Go.Proofs.Qxb6601738a
open Go.RowKit

def Both (w : World) (r : P8 × Int) (e : Ending) (w' : World) : Prop := e = .returned (.tuple #[.agg r.1.arr, .int .i64 r.2]) ∧ Below w.heap.size w w'

def zeros : Array Value := #[.int .i32 0, .int .i32 0, .int .i32 0, .int .i32 0, .int .i32 0, .int .i32 0, .int .i32 0, .int .i32 0]
def zero8 : P8 := ⟨0, 0, 0, 0, 0, 0, 0, 0⟩

set_option maxHeartbeats 2000000 in
theorem zz_nil (w : World) (f : P8) (yr mo d now : Int) (hy : I32 yr) (hm : I32 mo) (hd : I32 d) :
    Calls Try.prog 12 #[.agg f.arr, .int .i32 yr, .int .i32 mo, .int .i32 d, .pointer none, .int .i64 now] w (Both w (setNil f yr mo d)) := by
  have HY := hide hy
  have HM := hide hm
  have HD := hide hd
  clear hy hm hd
  have HF := hide (fun w' => fields_any w' f)
  have hcells : (Value.agg f.arr).cells = f.arr := rfl
  unfold P8.arr parts at HF ⊢
  go_enter Try.func12, Try.ntmps12
  go_wp2_with fail
  refine (HF.out _).mono ?_
  rintro e w2 ⟨rfl, hB⟩
  have HZ2 : Hid (Blk w2 (w.heap.size + 1) zeros 26) := by
    have h1 := Blk.made (w.alloc (.cells f.arr 26)) zeros 26
    rw [World.size_alloc] at h1
    exact h1.keep (hB.block _ (by simp))
  have HB2 : Hid (Below w.heap.size w w2) := (((Below.refl _ _).alloc (Nat.le_refl _) _).alloc (by simp) _).trans (hB.mono (by simp; omega))
  have hsz : w.heap.size + 1 < w2.heap.size := HZ2.out.lt
  clear hB HF
  have HS := hide (setNil_any (Blk.made w2 f.arr 45) yr mo d now HY.out HM.out HD.out)
  obtain ⟨r, hr⟩ : ∃ r, setNil f yr mo d = r := ⟨_, rfl⟩
  rw [hr] at HS
  have HR := hide hr
  clear hr
  unfold P8.arr parts at HS
  go_wp2_with fail
  refine HS.out.mono ?_
  rintro e w3 ⟨rfl, hb3, hf3⟩
  have HZ3 : Hid (Blk w3 (w.heap.size + 1) zeros 26) := (HZ2.out.alloc _).keep (hf3.block _ (by simp; omega) (by omega))
  have HB3 : Hid (Below w.heap.size w w3) := (HB2.out.alloc (by omega) _).trans (hf3.below (fun k hk => by omega) (by simp; omega))
  obtain ⟨k0, k1, k2, k3, k4, k5, k6, k7⟩ := P8.cell hb3
  have HP := hide (parts_any w3 r.1)
  unfold P8.arr parts at HP
  clear hb3 hf3 HS
  go_wp2_with fail
  refine HP.out.mono ?_
  rintro e w4 ⟨rfl, hB4⟩
  have hz4 := HZ3.out.keep (hB4.block _ (HZ3.out.lt))
  have HB4 : Hid (Below w.heap.size w w4) := HB3.out.trans (hB4.mono HB3.out.size)
  have kf := hz4.free
  obtain ⟨z0, z1, z2, z3, z4, z5, z6, z7⟩ : w4.cell? ⟨w.heap.size + 1, 0, none⟩ = some (.int .i32 0) ∧ w4.cell? ⟨w.heap.size + 1, 1, none⟩ = some (.int .i32 0) ∧ w4.cell? ⟨w.heap.size + 1, 2, none⟩ = some (.int .i32 0) ∧ w4.cell? ⟨w.heap.size + 1, 3, none⟩ = some (.int .i32 0) ∧ w4.cell? ⟨w.heap.size + 1, 4, none⟩ = some (.int .i32 0) ∧ w4.cell? ⟨w.heap.size + 1, 5, none⟩ = some (.int .i32 0) ∧ w4.cell? ⟨w.heap.size + 1, 6, none⟩ = some (.int .i32 0) ∧ w4.cell? ⟨w.heap.size + 1, 7, none⟩ = some (.int .i32 0) :=
    ⟨hz4.cell 0, hz4.cell 1, hz4.cell 2, hz4.cell 3, hz4.cell 4, hz4.cell 5, hz4.cell 6, hz4.cell 7⟩
  clear hB4 hz4 HP
  go_wp2
  refine bodyPost_ret (v := .tuple #[.agg #[.int .i32 r.1.y, .int .i32 r.1.mo, .int .i32 r.1.d, .int .i32 r.1.h, .int .i32 r.1.mi, .int .i32 r.1.s, .int .i32 r.1.wd, .int .i32 r.1.ds], .int .i64 r.2]) (by simp [results, Try.results12, go_sem, z0, z1, z2, z3, z4, z5, z6, z7]) rfl ?_
  rw [HR.out]
  refine ⟨rfl, ?_⟩
  have q : w.heap.size ≤ w.heap.size + 1 := by omega
  exact (((((((HB4.out.setCell (p := ⟨w.heap.size + 1, 0, none⟩) q _).setCell (p := ⟨w.heap.size + 1, 1, none⟩) q _).setCell (p := ⟨w.heap.size + 1, 2, none⟩) q _).setCell (p := ⟨w.heap.size + 1, 3, none⟩) q _).setCell (p := ⟨w.heap.size + 1, 4, none⟩) q _).setCell (p := ⟨w.heap.size + 1, 5, none⟩) q _).setCell (p := ⟨w.heap.size + 1, 6, none⟩) q _).setCell (p := ⟨w.heap.size + 1, 7, none⟩) q _

set_option maxHeartbeats 2000000 in
theorem zz_ref (w : World) (f g : P8) (ok : f.ok) (yr mo d now : Int) (hy : I32 yr) (hm : I32 mo) (hd : I32 d) (hgy : I32 g.y) (hn0 : -9223372036854775808 ≤ now) (hn1 : now ≤ 9223372036853911807) {rb : Nat} (hrb : Blk w rb g.arr 26) :
    Calls Try.prog 12 #[.agg f.arr, .int .i32 yr, .int .i32 mo, .int .i32 d, .pointer (some ⟨rb, 0, none⟩), .int .i64 now] w (Both w (setRef f yr mo d g.y now)) := by
  have HY := hide hy
  have HM := hide hm
  have HD := hide hd
  have HOK := hide ok
  have HGY := hide hgy
  have HRB := hide hrb
  have HG := hide (fun w' => fields_any w' g)
  clear hy hm hd ok hgy hrb
  have HF := hide (fun w' => fields_any w' f)
  have hcells : (Value.agg f.arr).cells = f.arr := rfl
  unfold P8.arr parts at HF HG ⊢
  go_enter Try.func12, Try.ntmps12
  go_wp2_with fail
  refine (HF.out _).mono ?_
  rintro e w2 ⟨rfl, hB⟩
  have HZ2 : Hid (Blk w2 (w.heap.size + 1) zeros 26) := by
    have h1 := Blk.made (w.alloc (.cells f.arr 26)) zeros 26
    rw [World.size_alloc] at h1
    exact h1.keep (hB.block _ (by simp))
  have HB2 : Hid (Below w.heap.size w w2) := (((Below.refl _ _).alloc (Nat.le_refl _) _).alloc (by simp) _).trans (hB.mono (by simp; omega))
  have hsz : w.heap.size + 1 < w2.heap.size := HZ2.out.lt
  clear hB HF
  have hrb2 : Blk w2 rb g.arr 26 := HRB.out.keep (HB2.out.block _ HRB.out.lt)
  obtain ⟨r0, r1, r2, r3, r4, r5, r6, r7⟩ : w2.cell? ⟨rb, 0, none⟩ = some (.int .i32 g.y) ∧ w2.cell? ⟨rb, 1, none⟩ = some (.int .i32 g.mo) ∧ w2.cell? ⟨rb, 2, none⟩ = some (.int .i32 g.d) ∧ w2.cell? ⟨rb, 3, none⟩ = some (.int .i32 g.h) ∧ w2.cell? ⟨rb, 4, none⟩ = some (.int .i32 g.mi) ∧ w2.cell? ⟨rb, 5, none⟩ = some (.int .i32 g.s) ∧ w2.cell? ⟨rb, 6, none⟩ = some (.int .i32 g.wd) ∧ w2.cell? ⟨rb, 7, none⟩ = some (.int .i32 g.ds) :=
    ⟨hrb2.cell 0, hrb2.cell 1, hrb2.cell 2, hrb2.cell 3, hrb2.cell 4, hrb2.cell 5, hrb2.cell 6, hrb2.cell 7⟩
  have hrl : rb < w2.heap.size := hrb2.lt
  clear hrb2
  go_wp2_with fail
  refine (HG.out _).mono ?_
  rintro e wx ⟨rfl, hBx⟩
  have HZx : Hid (Blk wx (w.heap.size + 1) zeros 26) := (HZ2.out.alloc _).keep (hBx.block _ (by simp; omega))
  have HBx : Hid (Below w.heap.size w wx) := (HB2.out.alloc (by omega) _).trans (hBx.mono (by simp; omega))
  have HFb : Hid (Blk wx w2.heap.size f.arr 45) := (Blk.made w2 f.arr 45).keep (hBx.block _ (by simp))
  have hszx : w2.heap.size < wx.heap.size := HFb.out.lt
  clear hBx HG
  have HS := hide (setRef_any HOK.out (HFb.out.alloc (.cells g.arr 45)) yr mo d g.y now (rb := wx.heap.size) ((Blk.made wx g.arr 45).cell 0) HGY.out HY.out HM.out HD.out hn0 hn1)
  obtain ⟨r, hr⟩ : ∃ r, setRef f yr mo d g.y now = r := ⟨_, rfl⟩
  rw [hr] at HS
  have HR := hide hr
  clear hr
  unfold P8.arr parts at HS
  go_wp2_with fail
  refine HS.out.mono ?_
  rintro e w3 ⟨rfl, hb3, hf3⟩
  have HZ3 : Hid (Blk w3 (w.heap.size + 1) zeros 26) := (HZx.out.alloc _).keep (hf3.block _ (by simp; omega) (by omega))
  have HB3 : Hid (Below w.heap.size w w3) := (HBx.out.alloc (by omega) _).trans (hf3.below (fun k hk => by omega) (by simp; omega))
  obtain ⟨k0, k1, k2, k3, k4, k5, k6, k7⟩ := P8.cell hb3
  have HP := hide (parts_any w3 r.1)
  unfold P8.arr parts at HP
  clear hb3 hf3 HS
  go_wp2_with fail
  refine HP.out.mono ?_
  rintro e w4 ⟨rfl, hB4⟩
  have hz4 := HZ3.out.keep (hB4.block _ (HZ3.out.lt))
  have HB4 : Hid (Below w.heap.size w w4) := HB3.out.trans (hB4.mono HB3.out.size)
  have kf := hz4.free
  obtain ⟨z0, z1, z2, z3, z4, z5, z6, z7⟩ : w4.cell? ⟨w.heap.size + 1, 0, none⟩ = some (.int .i32 0) ∧ w4.cell? ⟨w.heap.size + 1, 1, none⟩ = some (.int .i32 0) ∧ w4.cell? ⟨w.heap.size + 1, 2, none⟩ = some (.int .i32 0) ∧ w4.cell? ⟨w.heap.size + 1, 3, none⟩ = some (.int .i32 0) ∧ w4.cell? ⟨w.heap.size + 1, 4, none⟩ = some (.int .i32 0) ∧ w4.cell? ⟨w.heap.size + 1, 5, none⟩ = some (.int .i32 0) ∧ w4.cell? ⟨w.heap.size + 1, 6, none⟩ = some (.int .i32 0) ∧ w4.cell? ⟨w.heap.size + 1, 7, none⟩ = some (.int .i32 0) :=
    ⟨hz4.cell 0, hz4.cell 1, hz4.cell 2, hz4.cell 3, hz4.cell 4, hz4.cell 5, hz4.cell 6, hz4.cell 7⟩
  clear hB4 hz4 HP
  go_wp2
  refine bodyPost_ret (v := .tuple #[.agg #[.int .i32 r.1.y, .int .i32 r.1.mo, .int .i32 r.1.d, .int .i32 r.1.h, .int .i32 r.1.mi, .int .i32 r.1.s, .int .i32 r.1.wd, .int .i32 r.1.ds], .int .i64 r.2]) (by simp [results, Try.results12, go_sem, z0, z1, z2, z3, z4, z5, z6, z7]) rfl ?_
  rw [HR.out]
  refine ⟨rfl, ?_⟩
  have q : w.heap.size ≤ w.heap.size + 1 := by omega
  exact (((((((HB4.out.setCell (p := ⟨w.heap.size + 1, 0, none⟩) q _).setCell (p := ⟨w.heap.size + 1, 1, none⟩) q _).setCell (p := ⟨w.heap.size + 1, 2, none⟩) q _).setCell (p := ⟨w.heap.size + 1, 3, none⟩) q _).setCell (p := ⟨w.heap.size + 1, 4, none⟩) q _).setCell (p := ⟨w.heap.size + 1, 5, none⟩) q _).setCell (p := ⟨w.heap.size + 1, 6, none⟩) q _).setCell (p := ⟨w.heap.size + 1, 7, none⟩) q _

end Go.Proofs.Qxb6601738a
