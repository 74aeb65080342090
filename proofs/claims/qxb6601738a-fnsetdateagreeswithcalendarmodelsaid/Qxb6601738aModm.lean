/-
  zzB1ModelSetDate (13), with a reference, no year.
-/
import Derived.Test.Qxb6601738aMod
set_option linter.unusedSimpArgs false
set_option linter.unusedVariables false
namespace Go.Proofs.Qxb6601738a
open Go.RowKit

set_option maxHeartbeats 2000000 in
theorem mod_ref_m_far (w : World) (f : P8) (okf : f.ok) (T mo d now : Int) (rb : Nat) (hr : w.cell? ⟨rb, 0, none⟩ = some (.int .i32 (T - 1900))) (hm0 : 1 ≤ mo) (hm1 : mo ≤ 12) (hd0 : 1 ≤ d) (hd1 : d ≤ 31) (hn0 : -9223372036854775808 ≤ now) (hn1 : now ≤ 9223372036853911807) (hgy : I32 (T - 1900)) (hfar : ¬ ((1970 ≤ T ∧ T ≤ 2099) ∧ 0 ≤ f.h ∧ 0 ≤ f.mi ∧ 0 ≤ f.s)) :
    Calls Try.prog 13 #[.agg f.arr, .int .i32 (-1), .int .i32 mo, .int .i32 d, .pointer (some ⟨rb, 0, none⟩), .int .i64 now] w (Both w ({ f with mo := mo - 1, d := d }, 0)) := by
  have HY := hide (fun w' => year_none w' (-1) (by unfold I32; omega) (Or.inl rfl))
  have hrl : rb < w.heap.size := World.block_lt_of_cell? w _ hr
  obtain ⟨t0, t1⟩ := hgy
  obtain ⟨hh0, hh1⟩ := okf.h
  obtain ⟨hi0, hi1⟩ := okf.mi
  obtain ⟨hs0, hs1⟩ := okf.s
  clear okf
  have f0 : decide (mo < 1) = false := by simp; omega
  have f1 : decide (12 < mo) = false := by simp; omega
  have f2 : decide (d < 1) = false := by simp; omega
  have f3 : decide (31 < d) = false := by simp; omega
  by_cases c0 : T < 1970
  · clear hfar
    unfold P8.arr parts
    have q0 : decide (1970 ≤ T) = false := by simp; omega
    go_enter Try.func13, Try.ntmps13
    go_wp2_with fail
    refine (HY.out _).mono ?_
    rintro e w2 ⟨rfl, rfl⟩
    go_wp2
    refine bodyPost_ret (v := .tuple #[.agg #[.int .i32 (f.y), .int .i32 (mo - 1), .int .i32 (d), .int .i32 f.h, .int .i32 f.mi, .int .i32 f.s, .int .i32 f.wd, .int .i32 f.ds], .int .i64 0]) (by simp [results, Try.results13, go_sem]) rfl ⟨rfl, both_below _ _ _⟩
  by_cases c1 : 2099 < T
  · clear hfar
    unfold P8.arr parts
    have q0 : decide (1970 ≤ T) = true := by simp; omega
    have q1 : decide (T ≤ 2099) = false := by simp; omega
    go_enter Try.func13, Try.ntmps13
    go_wp2_with fail
    refine (HY.out _).mono ?_
    rintro e w2 ⟨rfl, rfl⟩
    go_wp2
    refine bodyPost_ret (v := .tuple #[.agg #[.int .i32 (f.y), .int .i32 (mo - 1), .int .i32 (d), .int .i32 f.h, .int .i32 f.mi, .int .i32 f.s, .int .i32 f.wd, .int .i32 f.ds], .int .i64 0]) (by simp [results, Try.results13, go_sem]) rfl ⟨rfl, both_below _ _ _⟩
  by_cases c2 : f.h < 0
  · clear hfar
    unfold P8.arr parts
    have q0 : decide (1970 ≤ T) = true := by simp; omega
    have q1 : decide (T ≤ 2099) = true := by simp; omega
    have q2 : decide (0 ≤ f.h) = false := by simp; omega
    go_enter Try.func13, Try.ntmps13
    go_wp2_with fail
    refine (HY.out _).mono ?_
    rintro e w2 ⟨rfl, rfl⟩
    go_wp2
    refine bodyPost_ret (v := .tuple #[.agg #[.int .i32 (f.y), .int .i32 (mo - 1), .int .i32 (d), .int .i32 f.h, .int .i32 f.mi, .int .i32 f.s, .int .i32 f.wd, .int .i32 f.ds], .int .i64 0]) (by simp [results, Try.results13, go_sem]) rfl ⟨rfl, both_below _ _ _⟩
  by_cases c3 : f.mi < 0
  · clear hfar
    unfold P8.arr parts
    have q0 : decide (1970 ≤ T) = true := by simp; omega
    have q1 : decide (T ≤ 2099) = true := by simp; omega
    have q2 : decide (0 ≤ f.h) = true := by simp; omega
    have q3 : decide (0 ≤ f.mi) = false := by simp; omega
    go_enter Try.func13, Try.ntmps13
    go_wp2_with fail
    refine (HY.out _).mono ?_
    rintro e w2 ⟨rfl, rfl⟩
    go_wp2
    refine bodyPost_ret (v := .tuple #[.agg #[.int .i32 (f.y), .int .i32 (mo - 1), .int .i32 (d), .int .i32 f.h, .int .i32 f.mi, .int .i32 f.s, .int .i32 f.wd, .int .i32 f.ds], .int .i64 0]) (by simp [results, Try.results13, go_sem]) rfl ⟨rfl, both_below _ _ _⟩
  by_cases c4 : f.s < 0
  · clear hfar
    unfold P8.arr parts
    have q0 : decide (1970 ≤ T) = true := by simp; omega
    have q1 : decide (T ≤ 2099) = true := by simp; omega
    have q2 : decide (0 ≤ f.h) = true := by simp; omega
    have q3 : decide (0 ≤ f.mi) = true := by simp; omega
    have q4 : decide (0 ≤ f.s) = false := by simp; omega
    go_enter Try.func13, Try.ntmps13
    go_wp2_with fail
    refine (HY.out _).mono ?_
    rintro e w2 ⟨rfl, rfl⟩
    go_wp2
    refine bodyPost_ret (v := .tuple #[.agg #[.int .i32 (f.y), .int .i32 (mo - 1), .int .i32 (d), .int .i32 f.h, .int .i32 f.mi, .int .i32 f.s, .int .i32 f.wd, .int .i32 f.ds], .int .i64 0]) (by simp [results, Try.results13, go_sem]) rfl ⟨rfl, both_below _ _ _⟩
  exact absurd ⟨⟨by omega, by omega⟩, by omega, by omega, by omega⟩ hfar

set_option maxHeartbeats 2000000 in
theorem mod_ref_m_late (w : World) (f : P8) (okf : f.ok) (T mo d now : Int) (rb : Nat) (hr : w.cell? ⟨rb, 0, none⟩ = some (.int .i32 (T - 1900))) (hm0 : 1 ≤ mo) (hm1 : mo ≤ 12) (hd0 : 1 ≤ d) (hd1 : d ≤ 31) (hn0 : -9223372036854775808 ≤ now) (hn1 : now ≤ 9223372036853911807) (hgy : I32 (T - 1900)) (C : Int) (v0 : 0 ≤ C) (v1 : C ≤ 50000) (hc : ∀ w', Calls Try.prog 29 #[.int .i64 T, .int .i64 mo, .int .i64 d] w' fun e w2 => e = .returned (.int .i64 C) ∧ w2 = w') (y0 : 1970 ≤ T) (y1 : T ≤ 2099) (p0 : 0 ≤ f.h) (p1 : 0 ≤ f.mi) (p2 : 0 ≤ f.s) (hlt : now + 864000 < C * 86400 + f.h * 3600 + f.mi * 60 + f.s) :
    Calls Try.prog 13 #[.agg f.arr, .int .i32 (-1), .int .i32 mo, .int .i32 d, .pointer (some ⟨rb, 0, none⟩), .int .i64 now] w (Both w (f, -1)) := by
  have HY := hide (fun w' => year_none w' (-1) (by unfold I32; omega) (Or.inl rfl))
  have hrl : rb < w.heap.size := World.block_lt_of_cell? w _ hr
  obtain ⟨t0, t1⟩ := hgy
  obtain ⟨hh0, hh1⟩ := okf.h
  obtain ⟨hi0, hi1⟩ := okf.mi
  obtain ⟨hs0, hs1⟩ := okf.s
  clear okf
  have f0 : decide (mo < 1) = false := by simp; omega
  have f1 : decide (12 < mo) = false := by simp; omega
  have f2 : decide (d < 1) = false := by simp; omega
  have f3 : decide (31 < d) = false := by simp; omega
  have q0 : decide (1970 ≤ T) = true := by simp; omega
  have q1 : decide (T ≤ 2099) = true := by simp; omega
  have q2 : decide (0 ≤ f.h) = true := by simp; omega
  have q3 : decide (0 ≤ f.mi) = true := by simp; omega
  have q4 : decide (0 ≤ f.s) = true := by simp; omega
  have HC := hide hc
  clear hc
  unfold P8.arr parts
  have q5 : decide (now < C * 86400 + f.h * 3600 + f.mi * 60 + f.s - 864000) = true := by simp; omega
  have x0 : IntKind.i64.wrap (mo) = mo := IntWalk.i64_in _ ⟨by omega, by omega⟩
  have x1 : IntKind.i64.wrap (d) = d := IntWalk.i64_in _ ⟨by omega, by omega⟩
  have x2 : IntKind.i64.wrap (f.h) = f.h := IntWalk.i64_in _ ⟨by omega, by omega⟩
  have x3 : IntKind.i64.wrap (f.mi) = f.mi := IntWalk.i64_in _ ⟨by omega, by omega⟩
  have x4 : IntKind.i64.wrap (f.s) = f.s := IntWalk.i64_in _ ⟨by omega, by omega⟩
  have x5 : IntKind.i64.wrap (C * 86400) = C * 86400 := IntWalk.i64_in _ ⟨by omega, by omega⟩
  have x6 : IntKind.i64.wrap (f.h * 3600) = f.h * 3600 := IntWalk.i64_in _ ⟨by omega, by omega⟩
  have x7 : IntKind.i64.wrap (C * 86400 + f.h * 3600) = C * 86400 + f.h * 3600 := IntWalk.i64_in _ ⟨by omega, by omega⟩
  have x8 : IntKind.i64.wrap (f.mi * 60) = f.mi * 60 := IntWalk.i64_in _ ⟨by omega, by omega⟩
  have x9 : IntKind.i64.wrap (C * 86400 + f.h * 3600 + f.mi * 60) = C * 86400 + f.h * 3600 + f.mi * 60 := IntWalk.i64_in _ ⟨by omega, by omega⟩
  have x10 : IntKind.i64.wrap (C * 86400 + f.h * 3600 + f.mi * 60 + f.s) = C * 86400 + f.h * 3600 + f.mi * 60 + f.s := IntWalk.i64_in _ ⟨by omega, by omega⟩
  go_enter Try.func13, Try.ntmps13
  go_wp2_with fail
  refine (HY.out _).mono ?_
  rintro e w2 ⟨rfl, rfl⟩
  go_wp2_with fail
  go_quiet ((go_at_call 29; exact Calls.quiet_of_same (HC.out _)))
  go_wp2
  refine bodyPost_ret (v := .tuple #[.agg #[.int .i32 (f.y), .int .i32 (f.mo), .int .i32 (f.d), .int .i32 f.h, .int .i32 f.mi, .int .i32 f.s, .int .i32 f.wd, .int .i32 f.ds], .int .i64 (-1)]) (by simp [results, Try.results13, go_sem]) rfl ⟨rfl, sets8 (both_drew w _ _ _) (by omega) _ _ _ _ _ _ _ _⟩

set_option maxHeartbeats 2000000 in
theorem mod_ref_m_soon (w : World) (f : P8) (okf : f.ok) (T mo d now : Int) (rb : Nat) (hr : w.cell? ⟨rb, 0, none⟩ = some (.int .i32 (T - 1900))) (hm0 : 1 ≤ mo) (hm1 : mo ≤ 12) (hd0 : 1 ≤ d) (hd1 : d ≤ 31) (hn0 : -9223372036854775808 ≤ now) (hn1 : now ≤ 9223372036853911807) (hgy : I32 (T - 1900)) (C : Int) (v0 : 0 ≤ C) (v1 : C ≤ 50000) (hc : ∀ w', Calls Try.prog 29 #[.int .i64 T, .int .i64 mo, .int .i64 d] w' fun e w2 => e = .returned (.int .i64 C) ∧ w2 = w') (y0 : 1970 ≤ T) (y1 : T ≤ 2099) (p0 : 0 ≤ f.h) (p1 : 0 ≤ f.mi) (p2 : 0 ≤ f.s) (hlt : ¬ now + 864000 < C * 86400 + f.h * 3600 + f.mi * 60 + f.s) :
    Calls Try.prog 13 #[.agg f.arr, .int .i32 (-1), .int .i32 mo, .int .i32 d, .pointer (some ⟨rb, 0, none⟩), .int .i64 now] w (Both w ({ f with mo := mo - 1, d := d }, 0)) := by
  have HY := hide (fun w' => year_none w' (-1) (by unfold I32; omega) (Or.inl rfl))
  have hrl : rb < w.heap.size := World.block_lt_of_cell? w _ hr
  obtain ⟨t0, t1⟩ := hgy
  obtain ⟨hh0, hh1⟩ := okf.h
  obtain ⟨hi0, hi1⟩ := okf.mi
  obtain ⟨hs0, hs1⟩ := okf.s
  clear okf
  have f0 : decide (mo < 1) = false := by simp; omega
  have f1 : decide (12 < mo) = false := by simp; omega
  have f2 : decide (d < 1) = false := by simp; omega
  have f3 : decide (31 < d) = false := by simp; omega
  have q0 : decide (1970 ≤ T) = true := by simp; omega
  have q1 : decide (T ≤ 2099) = true := by simp; omega
  have q2 : decide (0 ≤ f.h) = true := by simp; omega
  have q3 : decide (0 ≤ f.mi) = true := by simp; omega
  have q4 : decide (0 ≤ f.s) = true := by simp; omega
  have HC := hide hc
  clear hc
  unfold P8.arr parts
  have q5 : decide (now < C * 86400 + f.h * 3600 + f.mi * 60 + f.s - 864000) = false := by simp; omega
  have x0 : IntKind.i64.wrap (mo) = mo := IntWalk.i64_in _ ⟨by omega, by omega⟩
  have x1 : IntKind.i64.wrap (d) = d := IntWalk.i64_in _ ⟨by omega, by omega⟩
  have x2 : IntKind.i64.wrap (f.h) = f.h := IntWalk.i64_in _ ⟨by omega, by omega⟩
  have x3 : IntKind.i64.wrap (f.mi) = f.mi := IntWalk.i64_in _ ⟨by omega, by omega⟩
  have x4 : IntKind.i64.wrap (f.s) = f.s := IntWalk.i64_in _ ⟨by omega, by omega⟩
  have x5 : IntKind.i64.wrap (C * 86400) = C * 86400 := IntWalk.i64_in _ ⟨by omega, by omega⟩
  have x6 : IntKind.i64.wrap (f.h * 3600) = f.h * 3600 := IntWalk.i64_in _ ⟨by omega, by omega⟩
  have x7 : IntKind.i64.wrap (C * 86400 + f.h * 3600) = C * 86400 + f.h * 3600 := IntWalk.i64_in _ ⟨by omega, by omega⟩
  have x8 : IntKind.i64.wrap (f.mi * 60) = f.mi * 60 := IntWalk.i64_in _ ⟨by omega, by omega⟩
  have x9 : IntKind.i64.wrap (C * 86400 + f.h * 3600 + f.mi * 60) = C * 86400 + f.h * 3600 + f.mi * 60 := IntWalk.i64_in _ ⟨by omega, by omega⟩
  have x10 : IntKind.i64.wrap (C * 86400 + f.h * 3600 + f.mi * 60 + f.s) = C * 86400 + f.h * 3600 + f.mi * 60 + f.s := IntWalk.i64_in _ ⟨by omega, by omega⟩
  go_enter Try.func13, Try.ntmps13
  go_wp2_with fail
  refine (HY.out _).mono ?_
  rintro e w2 ⟨rfl, rfl⟩
  go_wp2_with fail
  go_quiet ((go_at_call 29; exact Calls.quiet_of_same (HC.out _)))
  go_wp2
  refine bodyPost_ret (v := .tuple #[.agg #[.int .i32 (f.y), .int .i32 (mo - 1), .int .i32 (d), .int .i32 f.h, .int .i32 f.mi, .int .i32 f.s, .int .i32 f.wd, .int .i32 f.ds], .int .i64 0]) (by simp [results, Try.results13, go_sem]) rfl ⟨rfl, sets8 ((((both_drew w _ _ _).setCell (p := ⟨w.heap.size, 1, none⟩) (Nat.le_refl _) _).setCell (p := ⟨w.heap.size, 2, none⟩) (Nat.le_refl _) _)) (by omega) _ _ _ _ _ _ _ _⟩

set_option maxHeartbeats 2000000 in
theorem mod_ref_m_T (w : World) (f : P8) (okf : f.ok) (T mo d now : Int) (rb : Nat) (hr : w.cell? ⟨rb, 0, none⟩ = some (.int .i32 (T - 1900))) (hm0 : 1 ≤ mo) (hm1 : mo ≤ 12) (hd0 : 1 ≤ d) (hd1 : d ≤ 31) (hn0 : -9223372036854775808 ≤ now) (hn1 : now ≤ 9223372036853911807) (hgy : I32 (T - 1900))  :
    Calls Try.prog 13 #[.agg f.arr, .int .i32 (-1), .int .i32 mo, .int .i32 d, .pointer (some ⟨rb, 0, none⟩), .int .i64 now] w (Both w (if late (T - 1900) mo d f.h f.mi f.s now then (f, -1) else ({ f with mo := mo - 1, d := d }, 0))) := by
  have HL : late (T - 1900) mo d f.h f.mi f.s now = decide (((1970 ≤ T ∧ T ≤ 2099) ∧ 0 ≤ f.h ∧ 0 ≤ f.mi ∧ 0 ≤ f.s) ∧ now + 864000 < secs (T - 1900) (mo - 1) d f.h f.mi f.s) := by
    unfold late
    apply decide_eq_decide.2
    constructor <;> (rintro ⟨⟨⟨_, _⟩, _, _, _⟩, _⟩; refine ⟨⟨⟨by omega, by omega⟩, by assumption, by assumption, by assumption⟩, by assumption⟩)
  rw [HL]
  by_cases hin : (1970 ≤ T ∧ T ≤ 2099) ∧ 0 ≤ f.h ∧ 0 ≤ f.mi ∧ 0 ≤ f.s
  · obtain ⟨⟨y0, y1⟩, p0, p1, p2⟩ := hin
    have hcs := civil_secs T mo d f.h f.mi f.s y0 y1 hm0 hm1
    obtain ⟨v0, v1⟩ := civil_bd T mo d y0 y1 hm0 hm1 hd0 hd1
    have hc := fun w' => civil_any w' T mo d y0 y1 hm0 hm1 hd0 hd1
    rw [← hcs]
    generalize civil T mo d = C at *
    by_cases hlt : now + 864000 < C * 86400 + f.h * 3600 + f.mi * 60 + f.s
    · rw [if_pos (decide_eq_true ⟨⟨⟨y0, y1⟩, p0, p1, p2⟩, hlt⟩)]
      exact mod_ref_m_late w f okf T mo d now rb hr hm0 hm1 hd0 hd1 hn0 hn1 hgy C v0 v1 hc y0 y1 p0 p1 p2 hlt
    · rw [if_neg (by intro e; exact hlt (of_decide_eq_true e).2)]
      exact mod_ref_m_soon w f okf T mo d now rb hr hm0 hm1 hd0 hd1 hn0 hn1 hgy C v0 v1 hc y0 y1 p0 p1 p2 hlt
  · rw [if_neg (by intro e; exact hin (of_decide_eq_true e).1)]
    exact mod_ref_m_far w f okf T mo d now rb hr hm0 hm1 hd0 hd1 hn0 hn1 hgy hin

end Go.Proofs.Qxb6601738a
