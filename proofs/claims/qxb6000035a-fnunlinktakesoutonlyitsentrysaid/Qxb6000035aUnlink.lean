/-
  '(*Tokens).unlink' (28): the four walks (is there one before? one after?), then what they do to the state.
-/
import Derived.Test.Qxb6000035aBase
set_option linter.unusedSimpArgs false
set_option linter.unusedVariables false
namespace Go.Proofs.Qxb6000035a
open Go.RowKit Go.Maps

abbrev tokA (m : Option Nat) (p1 p2 : Option Addr) (n fg : Int) : Array Value := #[.map m, .pointer p1, .pointer p2, .int .i64 n, .int .u64 fg]
abbrev entA (s : ByteArray) (l v : Int) (f : Bool) (o n : Option Addr) : Array Value := #[.string s, .int .u64 l, .int .u64 v, .bool f, .pointer o, .pointer n]

theorem unlink_nn (w : World) (tb eb : Nat) (m : Option Nat) (p1 p2 : Option Addr) (n fg : Int) (s : ByteArray) (l v : Int) (f : Bool)
    (hT : Blk w tb (tokA m p1 p2 n fg) 45) (hE : Blk w eb (entA s l v f none none) 60) (hn : 1 ≤ n) (hn2 : n ≤ 1000000) :
    Calls Try.prog 28 #[.pointer (some ⟨tb, 0, none⟩), .pointer (some ⟨eb, 0, none⟩)] w fun e w' => e = .returned (.tuple #[]) ∧
      w' = (((((w.setCell ⟨tb, 1, none⟩ (.pointer none)).setCell ⟨tb, 2, none⟩ (.pointer none)).setCell ⟨eb, 3, none⟩ (.bool false)).setCell ⟨eb, 4, none⟩ (.pointer none)).setCell ⟨eb, 5, none⟩ (.pointer none)).setCell ⟨tb, 3, none⟩ (.int .i64 (n - 1)) := by
  have hne : tb ≠ eb := hT.ne hE (by decide)
  have t1 : w.cell? ⟨tb, 1, none⟩ = some (.pointer p1) := hT.cell 1
  have t2 : w.cell? ⟨tb, 2, none⟩ = some (.pointer p2) := hT.cell 2
  have t3 : w.cell? ⟨tb, 3, none⟩ = some (.int .i64 n) := hT.cell 3
  have e3 : w.cell? ⟨eb, 3, none⟩ = some (.bool f) := hE.cell 3
  have e4 : w.cell? ⟨eb, 4, none⟩ = some (.pointer none) := hE.cell 4
  have e5 : w.cell? ⟨eb, 5, none⟩ = some (.pointer none) := hE.cell 5
  have ft := hT.free
  have fe := hE.free
  clear hT hE
  go_enter Try.func28, Try.ntmps28
  go_wp2
  go_end0
  exact ⟨rfl, rfl⟩

theorem unlink_ns (w : World) (tb eb nb : Nat) (m : Option Nat) (p1 p2 : Option Addr) (n fg : Int) (s : ByteArray) (l v : Int) (f : Bool) (s2 : ByteArray) (l2 v2 : Int) (f2 : Bool) (o2 n2 : Option Addr)
    (hT : Blk w tb (tokA m p1 p2 n fg) 45) (hE : Blk w eb (entA s l v f none (some ⟨nb, 0, none⟩)) 60) (hN : Blk w nb (entA s2 l2 v2 f2 o2 n2) 60) (hne2 : nb ≠ eb) (hn : 1 ≤ n) (hn2 : n ≤ 1000000) :
    Calls Try.prog 28 #[.pointer (some ⟨tb, 0, none⟩), .pointer (some ⟨eb, 0, none⟩)] w fun e w' => e = .returned (.tuple #[]) ∧ Same
      ((((((w.setCell ⟨tb, 1, none⟩ (.pointer (some ⟨nb, 0, none⟩))).setCell ⟨nb, 4, none⟩ (.pointer none)).setCell ⟨eb, 3, none⟩ (.bool false)).setCell ⟨eb, 4, none⟩ (.pointer none)).setCell ⟨eb, 5, none⟩ (.pointer none)).setCell ⟨tb, 3, none⟩ (.int .i64 (n - 1))) w' := by
  have hne : tb ≠ eb := hT.ne hE (by decide)
  have hne3 : tb ≠ nb := hT.ne hN (by decide)
  have t1 : w.cell? ⟨tb, 1, none⟩ = some (.pointer p1) := hT.cell 1
  have t2 : w.cell? ⟨tb, 2, none⟩ = some (.pointer p2) := hT.cell 2
  have t3 : w.cell? ⟨tb, 3, none⟩ = some (.int .i64 n) := hT.cell 3
  have e3 : w.cell? ⟨eb, 3, none⟩ = some (.bool f) := hE.cell 3
  have e4 : w.cell? ⟨eb, 4, none⟩ = some (.pointer none) := hE.cell 4
  have e5 : w.cell? ⟨eb, 5, none⟩ = some (.pointer (some ⟨nb, 0, none⟩)) := hE.cell 5
  have c4 : w.cell? ⟨nb, 4, none⟩ = some (.pointer o2) := hN.cell 4
  have ft := hT.free
  have fe := hE.free
  have fn := hN.free
  clear hT hE hN
  go_enter Try.func28, Try.ntmps28
  go_wp2
  go_region
  all_goals go_wp2
  all_goals (go_end0; exact ⟨rfl, (Same.refl _).drew⟩)

theorem unlink_sn (w : World) (tb eb ob : Nat) (m : Option Nat) (p1 p2 : Option Addr) (n fg : Int) (s : ByteArray) (l v : Int) (f : Bool) (s2 : ByteArray) (l2 v2 : Int) (f2 : Bool) (o2 n2 : Option Addr)
    (hT : Blk w tb (tokA m p1 p2 n fg) 45) (hE : Blk w eb (entA s l v f (some ⟨ob, 0, none⟩) none) 60) (hN : Blk w ob (entA s2 l2 v2 f2 o2 n2) 60) (hne2 : ob ≠ eb) (hn : 1 ≤ n) (hn2 : n ≤ 1000000) :
    Calls Try.prog 28 #[.pointer (some ⟨tb, 0, none⟩), .pointer (some ⟨eb, 0, none⟩)] w fun e w' => e = .returned (.tuple #[]) ∧ Same
      ((((((w.setCell ⟨ob, 5, none⟩ (.pointer none)).setCell ⟨tb, 2, none⟩ (.pointer (some ⟨ob, 0, none⟩))).setCell ⟨eb, 3, none⟩ (.bool false)).setCell ⟨eb, 4, none⟩ (.pointer none)).setCell ⟨eb, 5, none⟩ (.pointer none)).setCell ⟨tb, 3, none⟩ (.int .i64 (n - 1))) w' := by
  have hne : tb ≠ eb := hT.ne hE (by decide)
  have hne3 : tb ≠ ob := hT.ne hN (by decide)
  have t1 : w.cell? ⟨tb, 1, none⟩ = some (.pointer p1) := hT.cell 1
  have t2 : w.cell? ⟨tb, 2, none⟩ = some (.pointer p2) := hT.cell 2
  have t3 : w.cell? ⟨tb, 3, none⟩ = some (.int .i64 n) := hT.cell 3
  have e3 : w.cell? ⟨eb, 3, none⟩ = some (.bool f) := hE.cell 3
  have e4 : w.cell? ⟨eb, 4, none⟩ = some (.pointer (some ⟨ob, 0, none⟩)) := hE.cell 4
  have e5 : w.cell? ⟨eb, 5, none⟩ = some (.pointer none) := hE.cell 5
  have c5 : w.cell? ⟨ob, 5, none⟩ = some (.pointer n2) := hN.cell 5
  have ft := hT.free
  have fe := hE.free
  have fn := hN.free
  clear hT hE hN
  go_enter Try.func28, Try.ntmps28
  go_wp2
  go_region
  all_goals go_wp2
  all_goals (go_end0; exact ⟨rfl, (Same.refl _).drew⟩)

theorem unlink_ss (w : World) (tb eb ob nb : Nat) (m : Option Nat) (p1 p2 : Option Addr) (n fg : Int) (s : ByteArray) (l v : Int) (f : Bool) (s2 : ByteArray) (l2 v2 : Int) (f2 : Bool) (o2 n2 : Option Addr) (s3 : ByteArray) (l3 v3 : Int) (f3 : Bool) (o3 n3 : Option Addr)
    (hT : Blk w tb (tokA m p1 p2 n fg) 45) (hE : Blk w eb (entA s l v f (some ⟨ob, 0, none⟩) (some ⟨nb, 0, none⟩)) 60) (hO : Blk w ob (entA s2 l2 v2 f2 o2 n2) 60) (hN : Blk w nb (entA s3 l3 v3 f3 o3 n3) 60)
    (hne2 : ob ≠ eb) (hne4 : nb ≠ eb) (hne5 : ob ≠ nb) (hn : 1 ≤ n) (hn2 : n ≤ 1000000) :
    Calls Try.prog 28 #[.pointer (some ⟨tb, 0, none⟩), .pointer (some ⟨eb, 0, none⟩)] w fun e w' => e = .returned (.tuple #[]) ∧ Same
      ((((((w.setCell ⟨ob, 5, none⟩ (.pointer (some ⟨nb, 0, none⟩))).setCell ⟨nb, 4, none⟩ (.pointer (some ⟨ob, 0, none⟩))).setCell ⟨eb, 3, none⟩ (.bool false)).setCell ⟨eb, 4, none⟩ (.pointer none)).setCell ⟨eb, 5, none⟩ (.pointer none)).setCell ⟨tb, 3, none⟩ (.int .i64 (n - 1))) w' := by
  have hne : tb ≠ eb := hT.ne hE (by decide)
  have hne3 : tb ≠ ob := hT.ne hO (by decide)
  have hne6 : tb ≠ nb := hT.ne hN (by decide)
  have t1 : w.cell? ⟨tb, 1, none⟩ = some (.pointer p1) := hT.cell 1
  have t2 : w.cell? ⟨tb, 2, none⟩ = some (.pointer p2) := hT.cell 2
  have t3 : w.cell? ⟨tb, 3, none⟩ = some (.int .i64 n) := hT.cell 3
  have e3 : w.cell? ⟨eb, 3, none⟩ = some (.bool f) := hE.cell 3
  have e4 : w.cell? ⟨eb, 4, none⟩ = some (.pointer (some ⟨ob, 0, none⟩)) := hE.cell 4
  have e5 : w.cell? ⟨eb, 5, none⟩ = some (.pointer (some ⟨nb, 0, none⟩)) := hE.cell 5
  have c5 : w.cell? ⟨ob, 5, none⟩ = some (.pointer n2) := hO.cell 5
  have c4 : w.cell? ⟨nb, 4, none⟩ = some (.pointer o3) := hN.cell 4
  have ft := hT.free
  have fe := hE.free
  have fo := hO.free
  have fn := hN.free
  clear hT hE hN hO
  go_enter Try.func28, Try.ntmps28
  go_wp2
  go_region
  all_goals go_wp2
  all_goals go_region
  all_goals go_wp2
  all_goals (go_end0; exact ⟨rfl, (Same.refl _).drew.drew⟩)

end Go.Proofs.Qxb6000035a
