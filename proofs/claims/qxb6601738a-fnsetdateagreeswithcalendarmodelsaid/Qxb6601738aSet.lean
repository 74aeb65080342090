/-
  (*dateFields).setDate (26).
-/
import Derived.Test.Qxb6601738aEpochb
set_option linter.unusedSimpArgs false
set_option linter.unusedVariables false
namespace Go.Proofs.Qxb6601738a
open Go.RowKit

/-- A date's eight parts. -/
structure P8 where
  y : Int
  mo : Int
  d : Int
  h : Int
  mi : Int
  s : Int
  wd : Int
  ds : Int
def P8.arr (f : P8) : Array Value := parts f.y f.mo f.d f.h f.mi f.s f.wd f.ds
structure P8.ok (f : P8) : Prop where
  y : I32 f.y
  mo : I32 f.mo
  d : I32 f.d
  h : I32 f.h
  mi : I32 f.mi
  s : I32 f.s
  wd : I32 f.wd
  ds : I32 f.ds

/-- What a text's year stands for. -/
def yearOf (yr : Int) : Option Int :=
  if 1970 ≤ yr ∧ yr < 2100 then some (yr - 1900) else if 70 < yr ∧ yr < 100 then some yr else if yr < 38 then some (yr + 100) else none

/-- The date lies in reach, and more than ten days past now. -/
def late (ty mo d h mi s now : Int) : Bool := decide (((0 ≤ ty - 70 ∧ ty - 70 ≤ 129) ∧ 0 ≤ h ∧ 0 ≤ mi ∧ 0 ≤ s) ∧ now + 864000 < secs ty (mo - 1) d h mi s)

/-- What setDate leaves and answers: no reference. -/
def setNil (f : P8) (yr mo d : Int) : P8 × Int :=
  if mo < 1 ∨ 12 < mo ∨ d < 1 ∨ 31 < d then (f, -1)
  else if yr = -1 then ({ f with mo := mo - 1, d := d }, 1)
  else match yearOf yr with
    | some t => ({ f with y := t, mo := mo - 1, d := d }, 0)
    | none => ({ f with mo := mo - 1, d := d }, -1)
/-- .. a reference of year ry. -/
def setRef (f : P8) (yr mo d ry now : Int) : P8 × Int :=
  if mo < 1 ∨ 12 < mo ∨ d < 1 ∨ 31 < d then (f, -1)
  else if yr = -1 then (if late ry mo d f.h f.mi f.s now then (f, -1) else ({ f with mo := mo - 1, d := d }, 0))
  else match yearOf yr with
    | some t => if late t mo d f.h f.mi f.s now then (f, -1) else ({ f with y := t, mo := mo - 1, d := d }, 0)
    | none => (f, -1)

/-- What a call of setDate leaves: block b holds the parts; nothing else that was there is written. -/
def SetAt (w : World) (b : Nat) (r : P8 × Int) (e : Ending) (w' : World) : Prop :=
  e = .returned (.int .i64 r.2) ∧ Blk w' b r.1.arr 45 ∧ Fr (fun k => k = b) w w'

theorem P8.cell {w : World} {b : Nat} {f : P8} (h : Blk w b f.arr 45) : w.cell? ⟨b, 0, none⟩ = some (.int .i32 f.y) ∧ w.cell? ⟨b, 1, none⟩ = some (.int .i32 f.mo) ∧ w.cell? ⟨b, 2, none⟩ = some (.int .i32 f.d) ∧ w.cell? ⟨b, 3, none⟩ = some (.int .i32 f.h) ∧
    w.cell? ⟨b, 4, none⟩ = some (.int .i32 f.mi) ∧ w.cell? ⟨b, 5, none⟩ = some (.int .i32 f.s) ∧ w.cell? ⟨b, 6, none⟩ = some (.int .i32 f.wd) ∧ w.cell? ⟨b, 7, none⟩ = some (.int .i32 f.ds) :=
  ⟨h.cell 0, h.cell 1, h.cell 2, h.cell 3, h.cell 4, h.cell 5, h.cell 6, h.cell 7⟩

theorem SetAt.mk {w w' : World} {b : Nat} {r : P8 × Int} (hb : Blk w' b r.1.arr 45) (hf : Fr (fun k => k = b) w w') : SetAt w b r (.returned (.int .i64 r.2)) w' := ⟨rfl, hb, hf⟩
theorem SetAt.same {w w1 w2 : World} {b : Nat} {r : P8 × Int} {e : Ending} (h : SetAt w b r e w1) (k : Same w1 w2) : SetAt w b r e w2 := ⟨h.1, k.blk h.2.1, h.2.2.same k⟩

/-- The month and the day stored; a copy made. -/
theorem md_blk {w : World} {b : Nat} {f : P8} (h : Blk w b f.arr 45) (m d : Int) : Blk ((w.setCell ⟨b, 1, none⟩ (.int .i32 m)).setCell ⟨b, 2, none⟩ (.int .i32 d)) b ({ f with mo := m, d := d } : P8).arr 45 := (h.set 1 _).set 2 _
theorem md_fr (w : World) (b : Nat) (m d : Int) : Fr (fun k => k = b) w ((w.setCell ⟨b, 1, none⟩ (.int .i32 m)).setCell ⟨b, 2, none⟩ (.int .i32 d)) :=
  ((Fr.refl (fun k => k = b) w).set (p := ⟨b, 1, none⟩) rfl _).set (p := ⟨b, 2, none⟩) rfl _

set_option maxHeartbeats 1000000 in
theorem set_bad {w : World} {b : Nat} {f : P8} (hb : Blk w b f.arr 45) (yr mo d : Int) (ref : Option Addr) (now : Int) (hm : I32 mo) (hd : I32 d) (hbad : mo < 1 ∨ 12 < mo ∨ d < 1 ∨ 31 < d) :
    Calls Try.prog 26 #[.pointer (some ⟨b, 0, none⟩), .int .i32 yr, .int .i32 mo, .int .i32 d, .pointer ref, .int .i64 now] w (SetAt w b (f, -1)) := by
  have hfin : Hid (SetAt w b (f, -1) (.returned (.int .i64 (-1))) w) := SetAt.mk (r := (f, -1)) hb (Fr.refl _ _)
  unfold I32 at *
  obtain ⟨_, _⟩ := hm
  obtain ⟨_, _⟩ := hd
  clear hb
  by_cases c0 : mo ≤ 0
  · clear hbad
    go_enter Try.func26, Try.ntmps26
    go_wp2
    go_ret
    exact hfin.out
  by_cases c1 : 13 ≤ mo
  · clear hbad
    go_enter Try.func26, Try.ntmps26
    go_wp2
    go_ret
    exact hfin.out
  by_cases c2 : d ≤ 0
  · clear hbad
    go_enter Try.func26, Try.ntmps26
    go_wp2
    go_ret
    exact hfin.out
  have c3 : 32 ≤ d := by omega
  clear hbad
  go_enter Try.func26, Try.ntmps26
  go_wp2
  go_ret
  exact hfin.out

set_option maxHeartbeats 1000000 in
theorem set_nil_one {w : World} {b : Nat} {f : P8} (hb : Blk w b f.arr 45) (mo d : Int) (now : Int) (hm0 : 1 ≤ mo) (hm1 : mo ≤ 12) (hd0 : 1 ≤ d) (hd1 : d ≤ 31) :
    Calls Try.prog 26 #[.pointer (some ⟨b, 0, none⟩), .int .i32 (-1), .int .i32 mo, .int .i32 d, .pointer none, .int .i64 now] w (SetAt w b ({ f with mo := mo - 1, d := d }, 1)) := by
  obtain ⟨k0, k1, k2, k3, k4, k5, k6, k7⟩ := P8.cell hb
  have kf := hb.free
  have hl := hb.lt
  have HB := hide hb
  have f0 : decide (mo ≤ 0) = false := by simp; omega
  have f1 : decide (13 ≤ mo) = false := by simp; omega
  have f2 : decide (d ≤ 0) = false := by simp; omega
  have f3 : decide (32 ≤ d) = false := by simp; omega
  clear hb
  go_enter Try.func26, Try.ntmps26
  go_wp2
  go_ret
  exact SetAt.mk (r := ({ f with mo := mo - 1, d := d }, 1)) ((md_blk HB.out _ _).alloc _) ((md_fr _ _ _ _).alloc _)

set_option maxHeartbeats 1000000 in
theorem set_nil_a {w : World} {b : Nat} {f : P8} (hb : Blk w b f.arr 45) (yr : Int) (mo d : Int) (now : Int) (hm0 : 1 ≤ mo) (hm1 : mo ≤ 12) (hd0 : 1 ≤ d) (hd1 : d ≤ 31) (h1 : 1970 ≤ yr) (h2 : yr < 2100) :
    Calls Try.prog 26 #[.pointer (some ⟨b, 0, none⟩), .int .i32 yr, .int .i32 mo, .int .i32 d, .pointer none, .int .i64 now] w (SetAt w b ({ f with y := yr - 1900, mo := mo - 1, d := d }, 0)) := by
  obtain ⟨k0, k1, k2, k3, k4, k5, k6, k7⟩ := P8.cell hb
  have kf := hb.free
  have hl := hb.lt
  have HB := hide hb
  have f0 : decide (mo ≤ 0) = false := by simp; omega
  have f1 : decide (13 ≤ mo) = false := by simp; omega
  have f2 : decide (d ≤ 0) = false := by simp; omega
  have f3 : decide (32 ≤ d) = false := by simp; omega
  have e1 : (yr == -1) = false := by simp; omega
  have g1 : decide (1970 ≤ yr) = true := by simp; omega
  have g2 : decide (yr < 2100) = true := by simp; omega
  clear hb
  go_enter Try.func26, Try.ntmps26
  go_wp2
  go_ret
  exact SetAt.mk (r := ({ f with y := yr - 1900, mo := mo - 1, d := d }, 0)) (((md_blk HB.out _ _).set 0 _).alloc _) (((md_fr _ _ _ _).set (p := ⟨b, 0, none⟩) rfl _).alloc _)

set_option maxHeartbeats 1000000 in
theorem set_nil_b {w : World} {b : Nat} {f : P8} (hb : Blk w b f.arr 45) (yr : Int) (mo d : Int) (now : Int) (hm0 : 1 ≤ mo) (hm1 : mo ≤ 12) (hd0 : 1 ≤ d) (hd1 : d ≤ 31) (h1 : 70 < yr) (h2 : yr < 100) :
    Calls Try.prog 26 #[.pointer (some ⟨b, 0, none⟩), .int .i32 yr, .int .i32 mo, .int .i32 d, .pointer none, .int .i64 now] w (SetAt w b ({ f with y := yr, mo := mo - 1, d := d }, 0)) := by
  obtain ⟨k0, k1, k2, k3, k4, k5, k6, k7⟩ := P8.cell hb
  have kf := hb.free
  have hl := hb.lt
  have HB := hide hb
  have f0 : decide (mo ≤ 0) = false := by simp; omega
  have f1 : decide (13 ≤ mo) = false := by simp; omega
  have f2 : decide (d ≤ 0) = false := by simp; omega
  have f3 : decide (32 ≤ d) = false := by simp; omega
  have e1 : (yr == -1) = false := by simp; omega
  have g1 : decide (1970 ≤ yr) = false := by simp; omega
  have g3 : decide (70 < yr) = true := by simp; omega
  have g4 : decide (yr < 100) = true := by simp; omega
  clear hb
  go_enter Try.func26, Try.ntmps26
  go_wp2
  go_ret
  exact SetAt.mk (r := ({ f with y := yr, mo := mo - 1, d := d }, 0)) (((md_blk HB.out _ _).set 0 _).alloc _) (((md_fr _ _ _ _).set (p := ⟨b, 0, none⟩) rfl _).alloc _)

set_option maxHeartbeats 1000000 in
theorem set_nil_c {w : World} {b : Nat} {f : P8} (hb : Blk w b f.arr 45) (yr : Int) (mo d : Int) (now : Int) (hm0 : 1 ≤ mo) (hm1 : mo ≤ 12) (hd0 : 1 ≤ d) (hd1 : d ≤ 31) (h0 : -2147483648 ≤ yr) (h1 : yr < 38) (h2 : yr ≠ -1) :
    Calls Try.prog 26 #[.pointer (some ⟨b, 0, none⟩), .int .i32 yr, .int .i32 mo, .int .i32 d, .pointer none, .int .i64 now] w (SetAt w b ({ f with y := yr + 100, mo := mo - 1, d := d }, 0)) := by
  obtain ⟨k0, k1, k2, k3, k4, k5, k6, k7⟩ := P8.cell hb
  have kf := hb.free
  have hl := hb.lt
  have HB := hide hb
  have f0 : decide (mo ≤ 0) = false := by simp; omega
  have f1 : decide (13 ≤ mo) = false := by simp; omega
  have f2 : decide (d ≤ 0) = false := by simp; omega
  have f3 : decide (32 ≤ d) = false := by simp; omega
  have e1 : (yr == -1) = false := by simp; omega
  have g1 : decide (1970 ≤ yr) = false := by simp; omega
  have g3 : decide (70 < yr) = false := by simp; omega
  have g5 : decide (yr < 38) = true := by simp; omega
  clear hb
  go_enter Try.func26, Try.ntmps26
  go_wp2
  go_ret
  exact SetAt.mk (r := ({ f with y := yr + 100, mo := mo - 1, d := d }, 0)) (((md_blk HB.out _ _).set 0 _).alloc _) (((md_fr _ _ _ _).set (p := ⟨b, 0, none⟩) rfl _).alloc _)

set_option maxHeartbeats 1000000 in
theorem set_nil_d {w : World} {b : Nat} {f : P8} (hb : Blk w b f.arr 45) (yr : Int) (mo d : Int) (now : Int) (hm0 : 1 ≤ mo) (hm1 : mo ≤ 12) (hd0 : 1 ≤ d) (hd1 : d ≤ 31) (h1 : 38 ≤ yr) (h2 : yr ≤ 70) :
    Calls Try.prog 26 #[.pointer (some ⟨b, 0, none⟩), .int .i32 yr, .int .i32 mo, .int .i32 d, .pointer none, .int .i64 now] w (SetAt w b ({ f with mo := mo - 1, d := d }, -1)) := by
  obtain ⟨k0, k1, k2, k3, k4, k5, k6, k7⟩ := P8.cell hb
  have kf := hb.free
  have hl := hb.lt
  have HB := hide hb
  have f0 : decide (mo ≤ 0) = false := by simp; omega
  have f1 : decide (13 ≤ mo) = false := by simp; omega
  have f2 : decide (d ≤ 0) = false := by simp; omega
  have f3 : decide (32 ≤ d) = false := by simp; omega
  have e1 : (yr == -1) = false := by simp; omega
  have g1 : decide (1970 ≤ yr) = false := by simp; omega
  have g3 : decide (70 < yr) = false := by simp; omega
  have g5 : decide (yr < 38) = false := by simp; omega
  clear hb
  go_enter Try.func26, Try.ntmps26
  go_wp2
  go_ret
  exact SetAt.mk (r := ({ f with mo := mo - 1, d := d }, -1)) ((md_blk HB.out _ _).alloc _) ((md_fr _ _ _ _).alloc _)

set_option maxHeartbeats 1000000 in
theorem set_nil_e {w : World} {b : Nat} {f : P8} (hb : Blk w b f.arr 45) (yr : Int) (mo d : Int) (now : Int) (hm0 : 1 ≤ mo) (hm1 : mo ≤ 12) (hd0 : 1 ≤ d) (hd1 : d ≤ 31) (h1 : 100 ≤ yr) (h2 : yr < 1970) :
    Calls Try.prog 26 #[.pointer (some ⟨b, 0, none⟩), .int .i32 yr, .int .i32 mo, .int .i32 d, .pointer none, .int .i64 now] w (SetAt w b ({ f with mo := mo - 1, d := d }, -1)) := by
  obtain ⟨k0, k1, k2, k3, k4, k5, k6, k7⟩ := P8.cell hb
  have kf := hb.free
  have hl := hb.lt
  have HB := hide hb
  have f0 : decide (mo ≤ 0) = false := by simp; omega
  have f1 : decide (13 ≤ mo) = false := by simp; omega
  have f2 : decide (d ≤ 0) = false := by simp; omega
  have f3 : decide (32 ≤ d) = false := by simp; omega
  have e1 : (yr == -1) = false := by simp; omega
  have g1 : decide (1970 ≤ yr) = false := by simp; omega
  have g3 : decide (70 < yr) = true := by simp; omega
  have g4 : decide (yr < 100) = false := by simp; omega
  have g5 : decide (yr < 38) = false := by simp; omega
  clear hb
  go_enter Try.func26, Try.ntmps26
  go_wp2
  go_ret
  exact SetAt.mk (r := ({ f with mo := mo - 1, d := d }, -1)) ((md_blk HB.out _ _).alloc _) ((md_fr _ _ _ _).alloc _)

set_option maxHeartbeats 1000000 in
theorem set_nil_g {w : World} {b : Nat} {f : P8} (hb : Blk w b f.arr 45) (yr : Int) (mo d : Int) (now : Int) (hm0 : 1 ≤ mo) (hm1 : mo ≤ 12) (hd0 : 1 ≤ d) (hd1 : d ≤ 31) (h1 : 2100 ≤ yr) (h2 : yr ≤ 2147483647) :
    Calls Try.prog 26 #[.pointer (some ⟨b, 0, none⟩), .int .i32 yr, .int .i32 mo, .int .i32 d, .pointer none, .int .i64 now] w (SetAt w b ({ f with mo := mo - 1, d := d }, -1)) := by
  obtain ⟨k0, k1, k2, k3, k4, k5, k6, k7⟩ := P8.cell hb
  have kf := hb.free
  have hl := hb.lt
  have HB := hide hb
  have f0 : decide (mo ≤ 0) = false := by simp; omega
  have f1 : decide (13 ≤ mo) = false := by simp; omega
  have f2 : decide (d ≤ 0) = false := by simp; omega
  have f3 : decide (32 ≤ d) = false := by simp; omega
  have e1 : (yr == -1) = false := by simp; omega
  have g1 : decide (1970 ≤ yr) = true := by simp; omega
  have g2 : decide (yr < 2100) = false := by simp; omega
  have g3 : decide (70 < yr) = true := by simp; omega
  have g4 : decide (yr < 100) = false := by simp; omega
  have g5 : decide (yr < 38) = false := by simp; omega
  clear hb
  go_enter Try.func26, Try.ntmps26
  go_wp2
  go_ret
  exact SetAt.mk (r := ({ f with mo := mo - 1, d := d }, -1)) ((md_blk HB.out _ _).alloc _) ((md_fr _ _ _ _).alloc _)


end Go.Proofs.Qxb6601738a
