/-
  '(*Tokens).free' (29) and '(*Tokens).hold' (30): the walks.
-/
import Derived.Test.Qxb6000035aUnlinkTok
set_option linter.unusedSimpArgs false
set_option linter.unusedVariables false
namespace Go.Proofs.Qxb6000035a
open Go.RowKit Go.Maps

theorem free_unknown (w : World) (tb : Nat) (m : Option Nat) (p1 p2 : Option Addr) (n fg : Int) (r : ByteArray)
    (hT : Blk w tb (tokA m p1 p2 n fg) 45)
    (hrun : (Instr.lookup 42 (.map m) (.string r) true).run Try.prog w = .ok (.tuple #[.pointer none, .bool false]) w) :
    Calls Try.prog 29 #[.pointer (some ⟨tb, 0, none⟩), .string r] w fun e w' => e = .returned (.tuple #[]) ∧ w' = w := by
  have t0 : w.cell? ⟨tb, 0, none⟩ = some (.map m) := hT.cell 0
  clear hT
  go_enter Try.func29, Try.ntmps29
  go_wp2
  exact bodyPost_ret (results_none Try.results29 _ _ _) rfl ⟨rfl, rfl⟩

theorem free_free (w : World) (tb eb : Nat) (m : Option Nat) (p1 p2 : Option Addr) (n fg : Int) (r s : ByteArray) (l v : Int) (o2 n2 : Option Addr)
    (hT : Blk w tb (tokA m p1 p2 n fg) 45) (hE : Blk w eb (entA s l v true o2 n2) 60)
    (hrun : (Instr.lookup 42 (.map m) (.string r) true).run Try.prog w = .ok (.tuple #[.pointer (some ⟨eb, 0, none⟩), .bool true]) w) :
    Calls Try.prog 29 #[.pointer (some ⟨tb, 0, none⟩), .string r] w fun e w' => e = .returned (.tuple #[]) ∧ w' = w := by
  have t0 : w.cell? ⟨tb, 0, none⟩ = some (.map m) := hT.cell 0
  have e3 : w.cell? ⟨eb, 3, none⟩ = some (.bool true) := hE.cell 3
  clear hT hE
  go_enter Try.func29, Try.ntmps29
  go_wp2
  exact bodyPost_ret (results_none Try.results29 _ _ _) rfl ⟨rfl, rfl⟩

theorem free_first (w : World) (tb eb : Nat) (m : Option Nat) (p1 : Option Addr) (n fg : Int) (r s : ByteArray) (l v : Int) (o2 n2 : Option Addr)
    (hT : Blk w tb (tokA m p1 none n fg) 45) (hE : Blk w eb (entA s l v false o2 n2) 60) (hn : 0 ≤ n) (hn2 : n ≤ 1000000)
    (hrun : (Instr.lookup 42 (.map m) (.string r) true).run Try.prog w = .ok (.tuple #[.pointer (some ⟨eb, 0, none⟩), .bool true]) w) :
    Calls Try.prog 29 #[.pointer (some ⟨tb, 0, none⟩), .string r] w fun e w' => e = .returned (.tuple #[]) ∧
      w' = (((((w.setCell ⟨eb, 3, none⟩ (.bool true)).setCell ⟨eb, 4, none⟩ (.pointer none)).setCell ⟨eb, 5, none⟩ (.pointer none)).setCell ⟨tb, 1, none⟩ (.pointer (some ⟨eb, 0, none⟩))).setCell ⟨tb, 2, none⟩ (.pointer (some ⟨eb, 0, none⟩))).setCell ⟨tb, 3, none⟩ (.int .i64 (n + 1)) := by
  have hne : tb ≠ eb := hT.ne hE (by decide)
  have t0 : w.cell? ⟨tb, 0, none⟩ = some (.map m) := hT.cell 0
  have t1 : w.cell? ⟨tb, 1, none⟩ = some (.pointer p1) := hT.cell 1
  have t2 : w.cell? ⟨tb, 2, none⟩ = some (.pointer none) := hT.cell 2
  have t3 : w.cell? ⟨tb, 3, none⟩ = some (.int .i64 n) := hT.cell 3
  have e3 : w.cell? ⟨eb, 3, none⟩ = some (.bool false) := hE.cell 3
  have e4 : w.cell? ⟨eb, 4, none⟩ = some (.pointer o2) := hE.cell 4
  have e5 : w.cell? ⟨eb, 5, none⟩ = some (.pointer n2) := hE.cell 5
  have ft := hT.free
  have fe := hE.free
  clear hT hE
  go_enter Try.func29, Try.ntmps29
  go_wp2
  go_end0
  exact ⟨rfl, rfl⟩

theorem free_more (w : World) (tb eb pb : Nat) (m : Option Nat) (p1 : Option Addr) (n fg : Int) (r s : ByteArray) (l v : Int) (o2 n2 : Option Addr) (s3 : ByteArray) (l3 v3 : Int) (f3 : Bool) (o3 n3 : Option Addr)
    (hT : Blk w tb (tokA m p1 (some ⟨pb, 0, none⟩) n fg) 45) (hE : Blk w eb (entA s l v false o2 n2) 60) (hP : Blk w pb (entA s3 l3 v3 f3 o3 n3) 60) (hne2 : pb ≠ eb) (hn : 0 ≤ n) (hn2 : n ≤ 1000000)
    (hrun : (Instr.lookup 42 (.map m) (.string r) true).run Try.prog w = .ok (.tuple #[.pointer (some ⟨eb, 0, none⟩), .bool true]) w) :
    Calls Try.prog 29 #[.pointer (some ⟨tb, 0, none⟩), .string r] w fun e w' => e = .returned (.tuple #[]) ∧
      w' = (((((w.setCell ⟨eb, 3, none⟩ (.bool true)).setCell ⟨eb, 4, none⟩ (.pointer (some ⟨pb, 0, none⟩))).setCell ⟨eb, 5, none⟩ (.pointer none)).setCell ⟨pb, 5, none⟩ (.pointer (some ⟨eb, 0, none⟩))).setCell ⟨tb, 2, none⟩ (.pointer (some ⟨eb, 0, none⟩))).setCell ⟨tb, 3, none⟩ (.int .i64 (n + 1)) := by
  have hne : tb ≠ eb := hT.ne hE (by decide)
  have hne3 : tb ≠ pb := hT.ne hP (by decide)
  have t0 : w.cell? ⟨tb, 0, none⟩ = some (.map m) := hT.cell 0
  have t2 : w.cell? ⟨tb, 2, none⟩ = some (.pointer (some ⟨pb, 0, none⟩)) := hT.cell 2
  have t3 : w.cell? ⟨tb, 3, none⟩ = some (.int .i64 n) := hT.cell 3
  have e3 : w.cell? ⟨eb, 3, none⟩ = some (.bool false) := hE.cell 3
  have e4 : w.cell? ⟨eb, 4, none⟩ = some (.pointer o2) := hE.cell 4
  have e5 : w.cell? ⟨eb, 5, none⟩ = some (.pointer n2) := hE.cell 5
  have c5 : w.cell? ⟨pb, 5, none⟩ = some (.pointer n3) := hP.cell 5
  have ft := hT.free
  have fe := hE.free
  have fp := hP.free
  clear hT hE hP
  go_enter Try.func29, Try.ntmps29
  go_wp2
  go_end0
  exact ⟨rfl, rfl⟩

/-! ### hold -/
theorem hold_held (w : World) (tb eb : Nat) (m : Option Nat) (p1 p2 : Option Addr) (n fg : Int) (r s : ByteArray) (l v : Int) (o2 n2 : Option Addr)
    (hT : Blk w tb (tokA m p1 p2 n fg) 45) (hE : Blk w eb (entA s l v false o2 n2) 60)
    (hrun : (Instr.lookup 42 (.map m) (.string r) true).run Try.prog w = .ok (.tuple #[.pointer (some ⟨eb, 0, none⟩), .bool true]) w) :
    Calls Try.prog 30 #[.pointer (some ⟨tb, 0, none⟩), .string r] w fun e w' => e = .returned (.pointer (some ⟨eb, 0, none⟩)) ∧ w' = w := by
  have t0 : w.cell? ⟨tb, 0, none⟩ = some (.map m) := hT.cell 0
  have e3 : w.cell? ⟨eb, 3, none⟩ = some (.bool false) := hE.cell 3
  clear hT hE
  go_enter Try.func30, Try.ntmps30
  go_wp2
  go_ret
  exact ⟨rfl, rfl⟩

theorem hold_free (w : World) (tb eb : Nat) (m : Option Nat) (p1 p2 : Option Addr) (n fg : Int) (r s : ByteArray) (l v : Int) (o2 n2 : Option Addr) (R : World → Prop)
    (hT : Blk w tb (tokA m p1 p2 n fg) 45) (hE : Blk w eb (entA s l v true o2 n2) 60)
    (hrun : (Instr.lookup 42 (.map m) (.string r) true).run Try.prog w = .ok (.tuple #[.pointer (some ⟨eb, 0, none⟩), .bool true]) w)
    (hc : Hid (Calls Try.prog 28 #[.pointer (some ⟨tb, 0, none⟩), .pointer (some ⟨eb, 0, none⟩)] w fun e w' => e = .returned (.tuple #[]) ∧ R w')) :
    Calls Try.prog 30 #[.pointer (some ⟨tb, 0, none⟩), .string r] w fun e w' => e = .returned (.pointer (some ⟨eb, 0, none⟩)) ∧ R w' := by
  have t0 : w.cell? ⟨tb, 0, none⟩ = some (.map m) := hT.cell 0
  have e3 : w.cell? ⟨eb, 3, none⟩ = some (.bool true) := hE.cell 3
  clear hT hE
  go_enter Try.func30, Try.ntmps30
  go_wp2_with fail
  refine hc.out.mono ?_
  rintro e w1 ⟨rfl, hR⟩
  go_wp2
  go_ret
  exact ⟨rfl, hR⟩

end Go.Proofs.Qxb6000035a
