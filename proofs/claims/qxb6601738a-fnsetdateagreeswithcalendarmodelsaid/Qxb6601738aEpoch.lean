/-
  (*dateFields).epochSeconds (32).
-/
import Derived.Test.Qxb6601738aBase
import Derived.BigRegion
set_option linter.unusedSimpArgs false
set_option linter.unusedVariables false
namespace Go.Proofs.Qxb6601738a
open Go.RowKit

def I32 (x : Int) : Prop := -2147483648 ≤ x ∧ x ≤ 2147483647

def cum (m : Int) : Int :=
  if m = 0 then 0 else if m = 1 then 31 else if m = 2 then 59 else if m = 3 then 90 else if m = 4 then 120 else if m = 5 then 151 else if m = 6 then 181 else if m = 7 then 212 else if m = 8 then 243 else if m = 9 then 273 else if m = 10 then 304 else 334

/-- The parts of a date. -/
def parts (y mo d h mi s wd ds : Int) : Array Value := #[.int .i32 y, .int .i32 mo, .int .i32 d, .int .i32 h, .int .i32 mi, .int .i32 s, .int .i32 wd, .int .i32 ds]

/-- Seconds since the epoch, year and month in reach. -/
def secs (y mo d h mi s : Int) : Int :=
  ((y - 70) * 365 + (y - 70 + 1) / 4 + cum mo + (if mo < 2 ∨ (y - 70 + 2) % 4 ≠ 0 then d - 1 else d)) * 24 * 60 * 60 + h * 60 * 60 + mi * 60 + s

def Epoch (w : World) (v : Int) (e : Ending) (w' : World) : Prop := e = .returned (.int .i64 v) ∧ Below w.heap.size w w'

set_option maxHeartbeats 2000000 in
theorem epoch_no {w : World} {b : Nat} {y mo d h mi s wd ds : Int} (hb : Blk w b (parts y mo d h mi s wd ds) 45) (hy : I32 y) (hmo : I32 mo) (hh : I32 h) (hmi : I32 mi) (hs : I32 s)
    (hbad : y - 70 < 0 ∨ y - 70 > 129 ∨ mo < 0 ∨ mo > 11 ∨ h < 0 ∨ mi < 0 ∨ s < 0) :
    Calls Try.prog 32 #[.pointer (some ⟨b, 0, none⟩)] w (Epoch w (-1)) := by
  have k0 : w.cell? ⟨b, 0, none⟩ = some (.int .i32 y) := hb.cell 0
  have k1 : w.cell? ⟨b, 1, none⟩ = some (.int .i32 mo) := hb.cell 1
  have k3 : w.cell? ⟨b, 3, none⟩ = some (.int .i32 h) := hb.cell 3
  have k4 : w.cell? ⟨b, 4, none⟩ = some (.int .i32 mi) := hb.cell 4
  have k5 : w.cell? ⟨b, 5, none⟩ = some (.int .i32 s) := hb.cell 5
  have hl := hb.lt
  unfold I32 at *
  obtain ⟨y0, y1⟩ := hy
  obtain ⟨m0, m1⟩ := hmo
  obtain ⟨h0, h1⟩ := hh
  obtain ⟨i0, i1⟩ := hmi
  obtain ⟨s0, s1⟩ := hs
  have hend : Hid (∀ o, Epoch w (-1) (.returned (.int .i64 (-1))) (w.alloc o)) := fun o => ⟨rfl, (Below.refl _ _).alloc (Nat.le_refl _) o⟩
  clear hb
  by_cases c0 : y - 70 < 0
  · clear hbad
    go_enter Try.func32, Try.ntmps32
    go_wp2
    go_ret
    exact hend.out _
  by_cases c1 : y - 70 > 129
  · clear hbad
    go_enter Try.func32, Try.ntmps32
    go_wp2
    go_ret
    exact hend.out _
  by_cases c2 : mo < 0
  · clear hbad
    go_enter Try.func32, Try.ntmps32
    go_wp2
    go_ret
    exact hend.out _
  by_cases c3 : mo > 11
  · clear hbad
    go_enter Try.func32, Try.ntmps32
    go_wp2
    go_ret
    exact hend.out _
  by_cases c4 : h < 0
  · clear hbad
    go_enter Try.func32, Try.ntmps32
    go_wp2
    go_ret
    exact hend.out _
  by_cases c5 : mi < 0
  · clear hbad
    go_enter Try.func32, Try.ntmps32
    go_wp2
    go_ret
    exact hend.out _
  have c6 : s < 0 := by omega
  clear hbad
  go_enter Try.func32, Try.ntmps32
  go_wp2
  go_ret
  exact hend.out _

end Go.Proofs.Qxb6601738a
