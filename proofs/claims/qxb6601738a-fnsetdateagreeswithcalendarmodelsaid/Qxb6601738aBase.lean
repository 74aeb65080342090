/-
  WHAT ALL TEXTS OF THIS SEAT USE: blocks.
-/
import Derived.Test.Qxb6601738aRows
import Derived.WalkKit
import Derived.WalkSpells
import Derived.WalkLawsBesides
import Derived.Maps.AppendAt
import Derived.Deep.QuietTactic
import Derived.BigQuiet
set_option linter.unusedSimpArgs false
set_option linter.unusedVariables false
namespace Go.Proofs.Qxb6601738a
open Go.RowKit

theorem hide {p : Prop} (h : p) : Hid p := h

/-! ### blocks -/
/-- Block b is a row of cells of type t, none frozen. -/
def Blk (w : World) (b : Nat) (cs : Array Value) (t : TypeId) : Prop := w.heap[b]? = some (.cells cs t (0, 0))

theorem Blk.cell {w : World} {b : Nat} {cs : Array Value} {t : TypeId} (h : Blk w b cs t) (i : Nat) : w.cell? ⟨b, i, none⟩ = cs[i]? := by
  unfold Blk at h
  simp [World.cell?, h]
theorem Blk.free {w : World} {b : Nat} {cs : Array Value} {t : TypeId} (h : Blk w b cs t) (i : Nat) : w.frozen? ⟨b, i, none⟩ = false := by
  unfold Blk at h
  simp [World.frozen?, h]
theorem Blk.lt {w : World} {b : Nat} {cs : Array Value} {t : TypeId} (h : Blk w b cs t) : b < w.heap.size := (Array.getElem?_eq_some_iff.1 h).1
theorem Blk.ne {w : World} {b b' : Nat} {cs cs' : Array Value} {t t' : TypeId} (h : Blk w b cs t) (h' : Blk w b' cs' t') (ht : t ≠ t') : b ≠ b' := by
  rintro rfl
  unfold Blk at h h'
  rw [h] at h'
  simp at h'
  exact ht h'.2
theorem Blk.set {w : World} {b : Nat} {cs : Array Value} {t : TypeId} (h : Blk w b cs t) (i : Nat) (v : Value) : Blk (w.setCell ⟨b, i, none⟩ v) b (cs.setIfInBounds i v) t := by
  unfold Blk at h ⊢
  simp only [World.setCell, Array.getElem?_modify, if_true, h]
  rfl
theorem Blk.off {w : World} {b : Nat} {cs : Array Value} {t : TypeId} (h : Blk w b cs t) {b' : Nat} (hne : b' ≠ b) (i : Nat) (v : Value) : Blk (w.setCell ⟨b', i, none⟩ v) b cs t := by
  unfold Blk at h ⊢
  rw [Below.heap_setCell _ _ _ _ (by simpa using fun e => hne e.symm)]
  exact h
theorem Blk.seti {w : World} {k : Nat} {cs : Array Value} {t : TypeId} (h : Blk w k cs t) (b i : Nat) (v : Value) : Blk (w.setCell ⟨b, i, none⟩ v) k (if k = b then cs.setIfInBounds i v else cs) t := by
  by_cases e : k = b
  · subst e; rw [if_pos rfl]; exact h.set i v
  · rw [if_neg e]; exact h.off (fun q => e q.symm) i v
theorem Blk.drew {w : World} {b : Nat} {cs : Array Value} {t : TypeId} (h : Blk w b cs t) : Blk w.drew b cs t := h
theorem Blk.alloc {w : World} {b : Nat} {cs : Array Value} {t : TypeId} (h : Blk w b cs t) (o : Obj) : Blk (w.alloc o) b cs t := by
  have hl := h.lt
  unfold Blk at h ⊢
  rw [Below.heap_alloc _ _ _ hl]
  exact h
theorem Blk.made (w : World) (cs : Array Value) (t : TypeId) : Blk (w.alloc (.cells cs t)) w.heap.size cs t := heap_alloc_new w _
theorem Blk.keep {w w' : World} {b : Nat} {cs : Array Value} {t : TypeId} (h : Blk w b cs t) (e : w'.heap[b]? = w.heap[b]?) : Blk w' b cs t := e.trans h

/-- The same memory: only draws lie between. -/
structure Same (w w' : World) : Prop where
  heap : w'.heap = w.heap
  os : w'.os = w.os
  tape : w'.tape = w.tape
  output : w'.output = w.output
theorem Same.refl (w : World) : Same w w := ⟨rfl, rfl, rfl, rfl⟩
theorem Same.drew {w w' : World} (h : Same w w') : Same w w'.drew := ⟨h.heap, h.os, h.tape, h.output⟩
theorem Same.trans {a b c : World} (h : Same a b) (k : Same b c) : Same a c := ⟨k.heap.trans h.heap, k.os.trans h.os, k.tape.trans h.tape, k.output.trans h.output⟩
theorem Same.blk {w w' : World} (h : Same w w') {b : Nat} {cs : Array Value} {t : TypeId} (hb : Blk w b cs t) : Blk w' b cs t := by
  unfold Blk at hb ⊢; rw [h.heap]; exact hb
theorem Same.cell {w w' : World} (h : Same w w') (a : Addr) : w'.cell? a = w.cell? a := by simp [World.cell?, h.heap]

/-- w' is w with new blocks and with writes to the blocks of F alone. -/
structure Fr (F : Nat → Prop) (w w' : World) : Prop where
  os : w'.os = w.os
  tape : w'.tape = w.tape
  output : w'.output = w.output
  size : w.heap.size ≤ w'.heap.size
  block : ∀ k, k < w.heap.size → ¬ F k → w'.heap[k]? = w.heap[k]?

theorem Fr.refl (F : Nat → Prop) (w : World) : Fr F w w := ⟨rfl, rfl, rfl, Nat.le_refl _, fun _ _ _ => rfl⟩
theorem Fr.mono {F G : Nat → Prop} {w w' : World} (h : Fr F w w') (hs : ∀ k, k < w.heap.size → F k → G k) : Fr G w w' :=
  ⟨h.os, h.tape, h.output, h.size, fun k hk hg => h.block k hk (fun q => hg (hs k hk q))⟩
theorem Fr.trans {F : Nat → Prop} {a b c : World} (h : Fr F a b) (k : Fr F b c) : Fr F a c :=
  ⟨k.os.trans h.os, k.tape.trans h.tape, k.output.trans h.output, Nat.le_trans h.size k.size, fun i hi hf => (k.block i (Nat.lt_of_lt_of_le hi h.size) hf).trans (h.block i hi hf)⟩
/-- Two steps, the second over another set: what is old and in the second is in the first. -/
theorem Fr.then {F G : Nat → Prop} {a b c : World} (h : Fr F a b) (k : Fr G b c) (hs : ∀ i, G i → F i ∨ a.heap.size ≤ i) : Fr F a c :=
  ⟨k.os.trans h.os, k.tape.trans h.tape, k.output.trans h.output, Nat.le_trans h.size k.size, fun i hi hf => (k.block i (Nat.lt_of_lt_of_le hi h.size) (fun g => by rcases hs i g with q | q; exact hf q; omega)).trans (h.block i hi hf)⟩
theorem Fr.set {F : Nat → Prop} {a w : World} (h : Fr F a w) {p : Addr} (hp : F p.block) (u : Value) : Fr F a (w.setCell p u) :=
  h.trans ⟨rfl, rfl, rfl, by simp [World.setCell], fun k hk hf => Below.heap_setCell _ _ _ _ (fun e => hf (e ▸ hp))⟩
theorem Fr.alloc {F : Nat → Prop} {a w : World} (h : Fr F a w) (o : Obj) : Fr F a (w.alloc o) :=
  h.trans ⟨rfl, rfl, rfl, by simp, fun k hk _ => Below.heap_alloc _ _ _ hk⟩
theorem Fr.drew {F : Nat → Prop} {a w : World} (h : Fr F a w) : Fr F a w.drew := ⟨h.os, h.tape, h.output, h.size, h.block⟩
theorem Fr.same {F : Nat → Prop} {a w w' : World} (h : Fr F a w) (k : Same w w') : Fr F a w' :=
  ⟨k.os.trans h.os, k.tape.trans h.tape, k.output.trans h.output, by rw [k.heap]; exact h.size, fun i hi hf => by rw [k.heap]; exact h.block i hi hf⟩
theorem Fr.grown {F : Nat → Prop} {a w w' : World} {row : Option Nat} (h : Fr F a w) (hg : w.grownBy w' row) (hr : ∀ k, row = some k → F k ∨ a.heap.size ≤ k) : Fr F a w' :=
  ⟨hg.os.trans h.os, hg.tape.trans h.tape, hg.output.trans h.output, Nat.le_trans h.size hg.size, fun i hi hf => (hg.block i (Nat.lt_of_lt_of_le hi h.size) (fun e => by rcases hr i e.symm with q | q; exact hf q; omega)).trans (h.block i hi hf)⟩
theorem Fr.below {F : Nat → Prop} {B : Nat} {w w' : World} (h : Fr F w w') (hF : ∀ k, F k → B ≤ k) (hB : B ≤ w.heap.size) : Below B w w' :=
  ⟨h.os, h.tape, h.output, h.size, fun k hk => h.block k (by omega) (fun q => by have := hF k q; omega)⟩
theorem Fr.of_below {B : Nat} {w w' : World} (h : Below B w w') : Fr (fun k => B ≤ k) w w' :=
  ⟨h.os, h.tape, h.output, h.size, fun k _ hf => h.block k (by omega)⟩

theorem Below.same' {B : Nat} {a w w' : World} (h : Below B a w) (k : Same w w') : Below B a w' :=
  ⟨k.os.trans h.os, k.tape.trans h.tape, k.output.trans h.output, by rw [k.heap]; exact h.size, fun i hi => by rw [k.heap]; exact h.block i hi⟩
theorem Same.drewN {w w' : World} (h : Same w w') (n : Nat) : Same w (w'.drewN n) := ⟨h.heap, h.os, h.tape, h.output⟩

end Go.Proofs.Qxb6601738a
