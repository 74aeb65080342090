/-
  '(*Tokens).hold' (30) of a name that is not known: the walks.
-/
import Derived.Test.Qxb6000035aFree
set_option linter.unusedSimpArgs false
set_option linter.unusedVariables false
namespace Go.Proofs.Qxb6000035a
open Go.RowKit Go.Maps

theorem hold_new_some (w : World) (tb mb : Nat) (p1 p2 : Option Addr) (n fg : Int) (r : ByteArray) (N : Nat) (D : DataW Unit)
    (hT : Blk w tb (tokA (some mb) p1 p2 n fg) 45) (hown : w.ownsMap Try.prog 9 pE mb N D) (hN : N < maxLen) (hr : r.size ≤ maxLen)
    (hrun : (Instr.lookup 42 (.map (some mb)) (.string r) true).run Try.prog w = .ok (.tuple #[.pointer none, .bool false]) w) :
    Calls Try.prog 30 #[.pointer (some ⟨tb, 0, none⟩), .string r] w fun e w' => e = .returned (.pointer (some ⟨w.heap.size, 0, none⟩)) ∧
      w'.ownsMap Try.prog 9 pE mb (N + 1) (D.put (kl r) (.lit (.int .i64 w.heap.size))) ∧ (w.alloc (.cells (entA r fg 0 false none none) 60)).grownBy w' (some mb) := by
  have t0 : w.cell? ⟨tb, 0, none⟩ = some (.map (some mb)) := hT.cell 0
  have t4 : w.cell? ⟨tb, 4, none⟩ = some (.int .u64 fg) := hT.cell 4
  have hlt := hT.lt
  have q42 : ∀ (w : World) (r : Option Nat), (binOp .eql 42 (.map r) (.map none)).run Try.prog w = .ok (.bool r.isNone) w := fun w r => run_eql_map_nil w _ _ _ r Try.underlying42
  clear hT
  go_enter Try.func30, Try.ntmps30
  go_wp2_with (first | (at_mapUpdate; refine wpList_mapUpdate_own _ rfl _ _ _ 42 rfl 9 43 law9 Try.underlying42 pE mb N D rfl (hown.alloc _) hN _ _ _ rfl rfl (key9 hr) _ [] (pE_some _) ?_; intro w1 hown1 hgrow1) | go_in)
  go_ret
  exact ⟨rfl, hown1, hgrow1⟩

theorem hold_new_none (w : World) (tb : Nat) (p1 p2 : Option Addr) (n fg : Int) (r : ByteArray)
    (hT : Blk w tb (tokA none p1 p2 n fg) 45) (hr : r.size ≤ maxLen)
    (hrun : (Instr.lookup 42 (.map none) (.string r) true).run Try.prog w = .ok (.tuple #[.pointer none, .bool false]) w) :
    Calls Try.prog 30 #[.pointer (some ⟨tb, 0, none⟩), .string r] w fun e w' => e = .returned (.pointer (some ⟨w.heap.size + 1, 0, none⟩)) ∧
      w'.ownsMap Try.prog 9 pE w.heap.size 1 (DataW.put (.map []) (kl r) (.lit (.int .i64 (w.heap.size + 1 : Nat)))) ∧ (((w.setCell ⟨tb, 0, none⟩ (.map (some w.heap.size))).alloc (.map #[] 0)).alloc (.cells (entA r fg 0 false none none) 60)).grownBy w' (some w.heap.size) := by
  have t0 : w.cell? ⟨tb, 0, none⟩ = some (.map none) := hT.cell 0
  have t4 : w.cell? ⟨tb, 4, none⟩ = some (.int .u64 fg) := hT.cell 4
  have ft := hT.free
  have hlt := hT.lt
  have q42 : ∀ (w : World) (r : Option Nat), (binOp .eql 42 (.map r) (.map none)).run Try.prog w = .ok (.bool r.isNone) w := fun w r => run_eql_map_nil w _ _ _ r Try.underlying42
  have hmm := @run_makeMap Try.prog
  have hmade := World.ownsMap_made (w.setCell ⟨tb, 0, none⟩ (.map (some w.heap.size))) Try.prog 9 pE
  rw [World.size_setCell] at hmade
  have H := hide hmade
  clear hmade hT
  go_enter Try.func30, Try.ntmps30
  go_wp2_with (first | (at_mapUpdate; refine wpList_mapUpdate_own _ rfl _ _ _ 42 rfl 9 43 law9 Try.underlying42 pE w.heap.size 0 (.map []) rfl (H.out.alloc _) (by decide) _ _ _ rfl rfl (key9 hr) _ [] (pE_some _) ?_; intro w1 hown1 hgrow1) | go_in)
  go_ret
  exact ⟨rfl, hown1, hgrow1⟩

end Go.Proofs.Qxb6000035a
