/-
  zzB1ModelSetDate (13).
-/
import Derived.Test.Qxb6601738aZz
set_option linter.unusedSimpArgs false
set_option linter.unusedVariables false
namespace Go.Proofs.Qxb6601738a
open Go.RowKit

theorem both_below (w : World) (o o' : Obj) : Below w.heap.size w ((w.alloc o).alloc o') := ((Below.refl _ _).alloc (Nat.le_refl _) o).alloc (by simp) o'
theorem sets8 {B : Nat} {w w1 : World} (h : Below B w w1) {b : Nat} (q : B ≤ b) (v0 v1 v2 v3 v4 v5 v6 v7 : Value) : Below B w ((((((((w1.setCell ⟨b, 0, none⟩ v0).setCell ⟨b, 1, none⟩ v1).setCell ⟨b, 2, none⟩ v2).setCell ⟨b, 3, none⟩ v3).setCell ⟨b, 4, none⟩ v4).setCell ⟨b, 5, none⟩ v5).setCell ⟨b, 6, none⟩ v6).setCell ⟨b, 7, none⟩ v7) :=
  ((((((((h.setCell (p := ⟨b, 0, none⟩) q v0).setCell (p := ⟨b, 1, none⟩) q v1).setCell (p := ⟨b, 2, none⟩) q v2).setCell (p := ⟨b, 3, none⟩) q v3).setCell (p := ⟨b, 4, none⟩) q v4).setCell (p := ⟨b, 5, none⟩) q v5).setCell (p := ⟨b, 6, none⟩) q v6).setCell (p := ⟨b, 7, none⟩) q v7)
theorem both_drew (w : World) (o o' : Obj) (n : Nat) : Below w.heap.size w (((w.alloc o).alloc o').drewN n) := Below.same' (both_below _ _ _) ((Same.refl _).drewN _)
theorem civil_bd (y m d : Int) (hy0 : 1970 ≤ y) (hy1 : y ≤ 2099) (hm0 : 1 ≤ m) (hm1 : m ≤ 12) (hd0 : 1 ≤ d) (hd1 : d ≤ 31) : 0 ≤ civil y m d ∧ civil y m d ≤ 50000 := by
  unfold civil
  simp only
  split <;> split <;> omega

set_option maxHeartbeats 1000000 in
theorem mod_bad (w : World) (f : P8) (yr mo d now : Int) (ref : Option Addr) (hm : I32 mo) (hd : I32 d) (hbad : mo < 1 ∨ 12 < mo ∨ d < 1 ∨ 31 < d) :
    Calls Try.prog 13 #[.agg f.arr, .int .i32 yr, .int .i32 mo, .int .i32 d, .pointer ref, .int .i64 now] w (Both w (f, -1)) := by
  obtain ⟨_, _⟩ := hm
  obtain ⟨_, _⟩ := hd
  unfold P8.arr parts
  by_cases c0 : mo < 1
  · clear hbad
    go_enter Try.func13, Try.ntmps13
    go_wp2
    refine bodyPost_ret (v := .tuple #[.agg #[.int .i32 (f.y), .int .i32 (f.mo), .int .i32 (f.d), .int .i32 f.h, .int .i32 f.mi, .int .i32 f.s, .int .i32 f.wd, .int .i32 f.ds], .int .i64 (-1)]) (by simp [results, Try.results13, go_sem]) rfl ⟨rfl, both_below _ _ _⟩
  by_cases c1 : 12 < mo
  · clear hbad
    go_enter Try.func13, Try.ntmps13
    go_wp2
    refine bodyPost_ret (v := .tuple #[.agg #[.int .i32 (f.y), .int .i32 (f.mo), .int .i32 (f.d), .int .i32 f.h, .int .i32 f.mi, .int .i32 f.s, .int .i32 f.wd, .int .i32 f.ds], .int .i64 (-1)]) (by simp [results, Try.results13, go_sem]) rfl ⟨rfl, both_below _ _ _⟩
  by_cases c2 : d < 1
  · clear hbad
    go_enter Try.func13, Try.ntmps13
    go_wp2
    refine bodyPost_ret (v := .tuple #[.agg #[.int .i32 (f.y), .int .i32 (f.mo), .int .i32 (f.d), .int .i32 f.h, .int .i32 f.mi, .int .i32 f.s, .int .i32 f.wd, .int .i32 f.ds], .int .i64 (-1)]) (by simp [results, Try.results13, go_sem]) rfl ⟨rfl, both_below _ _ _⟩
  have c3 : 31 < d := by omega
  clear hbad
  go_enter Try.func13, Try.ntmps13
  go_wp2
  refine bodyPost_ret (v := .tuple #[.agg #[.int .i32 (f.y), .int .i32 (f.mo), .int .i32 (f.d), .int .i32 f.h, .int .i32 f.mi, .int .i32 f.s, .int .i32 f.wd, .int .i32 f.ds], .int .i64 (-1)]) (by simp [results, Try.results13, go_sem]) rfl ⟨rfl, both_below _ _ _⟩

set_option maxHeartbeats 1000000 in
theorem mod_nil_one (w : World) (f : P8) (mo d now : Int) (hm0 : 1 ≤ mo) (hm1 : mo ≤ 12) (hd0 : 1 ≤ d) (hd1 : d ≤ 31) :
    Calls Try.prog 13 #[.agg f.arr, .int .i32 (-1), .int .i32 mo, .int .i32 d, .pointer none, .int .i64 now] w (Both w ({ f with mo := mo - 1, d := d }, 1)) := by
  have HY := hide (fun w' => year_none w' (-1) (by unfold I32; omega) (Or.inl rfl))
  unfold P8.arr parts
  have f0 : decide (mo < 1) = false := by simp; omega
  have f1 : decide (12 < mo) = false := by simp; omega
  have f2 : decide (d < 1) = false := by simp; omega
  have f3 : decide (31 < d) = false := by simp; omega
  go_enter Try.func13, Try.ntmps13
  go_wp2_with fail
  refine (HY.out _).mono ?_
  rintro e w2 ⟨rfl, rfl⟩
  go_wp2
  refine bodyPost_ret (v := .tuple #[.agg #[.int .i32 (f.y), .int .i32 (mo - 1), .int .i32 (d), .int .i32 f.h, .int .i32 f.mi, .int .i32 f.s, .int .i32 f.wd, .int .i32 f.ds], .int .i64 1]) (by simp [results, Try.results13, go_sem]) rfl ⟨rfl, both_below _ _ _⟩

set_option maxHeartbeats 1000000 in
theorem mod_nil_some (w : World) (f : P8) (yr t mo d now : Int) (hm0 : 1 ≤ mo) (hm1 : mo ≤ 12) (hd0 : 1 ≤ d) (hd1 : d ≤ 31) (hy : I32 yr) (h1 : yr ≠ -1) (ht : yearOf yr = some t) :
    Calls Try.prog 13 #[.agg f.arr, .int .i32 yr, .int .i32 mo, .int .i32 d, .pointer none, .int .i64 now] w (Both w ({ f with y := t, mo := mo - 1, d := d }, 0)) := by
  have HY := hide (fun w' => year_some w' yr t hy h1 ht)
  have e1 : (yr == -1) = false := by simp; omega
  clear ht hy
  unfold P8.arr parts
  have f0 : decide (mo < 1) = false := by simp; omega
  have f1 : decide (12 < mo) = false := by simp; omega
  have f2 : decide (d < 1) = false := by simp; omega
  have f3 : decide (31 < d) = false := by simp; omega
  go_enter Try.func13, Try.ntmps13
  go_wp2_with fail
  refine (HY.out _).mono ?_
  rintro e w2 ⟨rfl, rfl⟩
  go_wp2
  refine bodyPost_ret (v := .tuple #[.agg #[.int .i32 (t), .int .i32 (mo - 1), .int .i32 (d), .int .i32 f.h, .int .i32 f.mi, .int .i32 f.s, .int .i32 f.wd, .int .i32 f.ds], .int .i64 0]) (by simp [results, Try.results13, go_sem]) rfl ⟨rfl, both_below _ _ _⟩

set_option maxHeartbeats 1000000 in
theorem mod_nil_none (w : World) (f : P8) (yr mo d now : Int) (hm0 : 1 ≤ mo) (hm1 : mo ≤ 12) (hd0 : 1 ≤ d) (hd1 : d ≤ 31) (hy : I32 yr) (h1 : yr ≠ -1) (ht : yearOf yr = none) :
    Calls Try.prog 13 #[.agg f.arr, .int .i32 yr, .int .i32 mo, .int .i32 d, .pointer none, .int .i64 now] w (Both w ({ f with mo := mo - 1, d := d }, -1)) := by
  have HY := hide (fun w' => year_none w' yr hy (Or.inr ht))
  have e1 : (yr == -1) = false := by simp; omega
  clear ht hy
  unfold P8.arr parts
  have f0 : decide (mo < 1) = false := by simp; omega
  have f1 : decide (12 < mo) = false := by simp; omega
  have f2 : decide (d < 1) = false := by simp; omega
  have f3 : decide (31 < d) = false := by simp; omega
  go_enter Try.func13, Try.ntmps13
  go_wp2_with fail
  refine (HY.out _).mono ?_
  rintro e w2 ⟨rfl, rfl⟩
  go_wp2
  refine bodyPost_ret (v := .tuple #[.agg #[.int .i32 (f.y), .int .i32 (mo - 1), .int .i32 (d), .int .i32 f.h, .int .i32 f.mi, .int .i32 f.s, .int .i32 f.wd, .int .i32 f.ds], .int .i64 (-1)]) (by simp [results, Try.results13, go_sem]) rfl ⟨rfl, both_below _ _ _⟩

set_option maxHeartbeats 1000000 in
theorem mod_ref_none (w : World) (f : P8) (yr mo d now : Int) (ra : Addr) (hm0 : 1 ≤ mo) (hm1 : mo ≤ 12) (hd0 : 1 ≤ d) (hd1 : d ≤ 31) (hy : I32 yr) (h1 : yr ≠ -1) (ht : yearOf yr = none) :
    Calls Try.prog 13 #[.agg f.arr, .int .i32 yr, .int .i32 mo, .int .i32 d, .pointer (some ra), .int .i64 now] w (Both w (f, -1)) := by
  have HY := hide (fun w' => year_none w' yr hy (Or.inr ht))
  have e1 : (yr == -1) = false := by simp; omega
  clear ht hy
  unfold P8.arr parts
  have f0 : decide (mo < 1) = false := by simp; omega
  have f1 : decide (12 < mo) = false := by simp; omega
  have f2 : decide (d < 1) = false := by simp; omega
  have f3 : decide (31 < d) = false := by simp; omega
  go_enter Try.func13, Try.ntmps13
  go_wp2_with fail
  refine (HY.out _).mono ?_
  rintro e w2 ⟨rfl, rfl⟩
  go_wp2
  refine bodyPost_ret (v := .tuple #[.agg #[.int .i32 (f.y), .int .i32 (f.mo), .int .i32 (f.d), .int .i32 f.h, .int .i32 f.mi, .int .i32 f.s, .int .i32 f.wd, .int .i32 f.ds], .int .i64 (-1)]) (by simp [results, Try.results13, go_sem]) rfl ⟨rfl, both_below _ _ _⟩

end Go.Proofs.Qxb6601738a
