/-
  The array to the struct (25) and back (27); the text's year (28); the civil count (29).
-/
import Derived.Test.Qxb6601738aSetall
set_option linter.unusedSimpArgs false
set_option linter.unusedVariables false
namespace Go.Proofs.Qxb6601738a
open Go.RowKit

def Made (w : World) (v : Value) (e : Ending) (w' : World) : Prop := e = .returned v ∧ Below w.heap.size w w'

set_option maxHeartbeats 1000000 in
theorem fields_any (w : World) (f : P8) : Calls Try.prog 25 #[.agg f.arr] w (Made w (.agg f.arr)) := by
  unfold P8.arr parts
  generalize f.y = y
  generalize f.mo = mo
  generalize f.d = d
  generalize f.h = h
  generalize f.mi = mi
  generalize f.s = s
  generalize f.wd = wd
  generalize f.ds = ds
  have hbel : Hid (∀ o o', Below w.heap.size w ((w.alloc o).alloc o')) := fun o o' => ((Below.refl _ _).alloc (Nat.le_refl _) o).alloc (by simp) o'
  go_enter Try.func25, Try.ntmps25
  go_wp2
  refine bodyPost_ret (v := .agg #[.int .i32 y, .int .i32 mo, .int .i32 d, .int .i32 h, .int .i32 mi, .int .i32 s, .int .i32 wd, .int .i32 ds]) (by simp [results, Try.results25, go_sem]) rfl ⟨rfl, hbel.out _ _⟩

set_option maxHeartbeats 1000000 in
theorem parts_any (w : World) (f : P8) : Calls Try.prog 27 #[.agg f.arr] w (Made w (.agg f.arr)) := by
  unfold P8.arr parts
  generalize f.y = y
  generalize f.mo = mo
  generalize f.d = d
  generalize f.h = h
  generalize f.mi = mi
  generalize f.s = s
  generalize f.wd = wd
  generalize f.ds = ds
  have hbel : Hid (∀ o o', Below w.heap.size w ((w.alloc o).alloc o')) := fun o o' => ((Below.refl _ _).alloc (Nat.le_refl _) o).alloc (by simp) o'
  go_enter Try.func27, Try.ntmps27
  go_wp2
  refine bodyPost_ret (v := .agg #[.int .i32 y, .int .i32 mo, .int .i32 d, .int .i32 h, .int .i32 mi, .int .i32 s, .int .i32 wd, .int .i32 ds]) (by simp [results, Try.results27, go_sem]) rfl ⟨rfl, hbel.out _ _⟩

/-- The civil count. -/
def civil (y m d : Int) : Int :=
  let y' := if m ≤ 2 then y - 1 else y
  let mp := if 2 < m then m - 3 else m + 9
  let era := y' / 400
  let yoe := y' - era * 400
  era * 146097 + (yoe * 365 + yoe / 4 - yoe / 100 + ((153 * mp + 2) / 5 + d - 1)) - 719468

set_option maxHeartbeats 1000000 in
theorem civil_any (w : World) (y m d : Int) (hy0 : 1970 ≤ y) (hy1 : y ≤ 2099) (hm0 : 1 ≤ m) (hm1 : m ≤ 12) (hd0 : 1 ≤ d) (hd1 : d ≤ 31) :
    Calls Try.prog 29 #[.int .i64 y, .int .i64 m, .int .i64 d] w fun e w' => e = .returned (.int .i64 (civil y m d)) ∧ w' = w := by
  unfold civil
  by_cases hm : m ≤ 2
  · have h2 : ¬ 2 < m := by omega
    simp only [if_pos hm, if_neg h2]
    go_enter Try.func29, Try.ntmps29
    go_wp2
    go_ret
    exact ⟨rfl, rfl⟩
  · have h2 : 2 < m := by omega
    simp only [if_neg hm, if_pos h2]
    go_enter Try.func29, Try.ntmps29
    go_wp2
    go_ret
    exact ⟨rfl, rfl⟩

end Go.Proofs.Qxb6601738a
