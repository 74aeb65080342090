/-
  WHAT ALL TEXTS OF THIS SEAT USE: blocks, frames, rows of a slice's elements.
-/
import Derived.Test.Qxb6000727aRows
import Derived.WalkKit
import Derived.WalkSpells
import Derived.WalkLawsBesides
import Derived.Maps.AppendAt
import Derived.Deep.QuietTactic
import Derived.BigQuiet
set_option linter.unusedSimpArgs false
set_option linter.unusedVariables false
namespace Go.Proofs.Qxb6000727a
open Go.RowKit

theorem hide {p : Prop} (h : p) : Hid p := h

/-! ### blocks -/
/-- Block b is a row of cells of type t, none frozen. -/
def Blk (w : World) (b : Nat) (cs : Array Value) (t : TypeId) : Prop := w.heap[b]? = some (.cells cs t (0, 0))

theorem Blk.cell {w : World} {b : Nat} {cs : Array Value} {t : TypeId} (h : Blk w b cs t) (i : Nat) : w.cell? ⟨b, i, none⟩ = cs[i]? := by
  unfold Blk at h
  simp [World.cell?, h]
theorem Blk.free {w : World} {b : Nat} {cs : Array Value} {t : TypeId} (h : Blk w b cs t) (i : Nat) : w.frozen? ⟨b, i, none⟩ = false := by
  unfold Blk at h
  simp [World.frozen?, h]
theorem Blk.lt {w : World} {b : Nat} {cs : Array Value} {t : TypeId} (h : Blk w b cs t) : b < w.heap.size := (Array.getElem?_eq_some_iff.1 h).1
theorem Blk.ne {w : World} {b b' : Nat} {cs cs' : Array Value} {t t' : TypeId} (h : Blk w b cs t) (h' : Blk w b' cs' t') (ht : t ≠ t') : b ≠ b' := by
  rintro rfl
  unfold Blk at h h'
  rw [h] at h'
  simp at h'
  exact ht h'.2
theorem Blk.set {w : World} {b : Nat} {cs : Array Value} {t : TypeId} (h : Blk w b cs t) (i : Nat) (v : Value) : Blk (w.setCell ⟨b, i, none⟩ v) b (cs.setIfInBounds i v) t := by
  unfold Blk at h ⊢
  simp only [World.setCell, Array.getElem?_modify, if_true, h]
  rfl
theorem Blk.off {w : World} {b : Nat} {cs : Array Value} {t : TypeId} (h : Blk w b cs t) {b' : Nat} (hne : b' ≠ b) (i : Nat) (v : Value) : Blk (w.setCell ⟨b', i, none⟩ v) b cs t := by
  unfold Blk at h ⊢
  rw [Below.heap_setCell _ _ _ _ (by simpa using fun e => hne e.symm)]
  exact h
theorem Blk.seti {w : World} {k : Nat} {cs : Array Value} {t : TypeId} (h : Blk w k cs t) (b i : Nat) (v : Value) : Blk (w.setCell ⟨b, i, none⟩ v) k (if k = b then cs.setIfInBounds i v else cs) t := by
  by_cases e : k = b
  · subst e; rw [if_pos rfl]; exact h.set i v
  · rw [if_neg e]; exact h.off (fun q => e q.symm) i v
theorem Blk.drew {w : World} {b : Nat} {cs : Array Value} {t : TypeId} (h : Blk w b cs t) : Blk w.drew b cs t := h
theorem Blk.alloc {w : World} {b : Nat} {cs : Array Value} {t : TypeId} (h : Blk w b cs t) (o : Obj) : Blk (w.alloc o) b cs t := by
  have hl := h.lt
  unfold Blk at h ⊢
  rw [Below.heap_alloc _ _ _ hl]
  exact h
theorem Blk.made (w : World) (cs : Array Value) (t : TypeId) : Blk (w.alloc (.cells cs t)) w.heap.size cs t := heap_alloc_new w _
theorem Blk.keep {w w' : World} {b : Nat} {cs : Array Value} {t : TypeId} (h : Blk w b cs t) (e : w'.heap[b]? = w.heap[b]?) : Blk w' b cs t := e.trans h

/-- The same memory: only draws lie between. -/
structure Same (w w' : World) : Prop where
  heap : w'.heap = w.heap
  os : w'.os = w.os
  tape : w'.tape = w.tape
  output : w'.output = w.output
theorem Same.refl (w : World) : Same w w := ⟨rfl, rfl, rfl, rfl⟩
theorem Same.drew {w w' : World} (h : Same w w') : Same w w'.drew := ⟨h.heap, h.os, h.tape, h.output⟩
theorem Same.trans {a b c : World} (h : Same a b) (k : Same b c) : Same a c := ⟨k.heap.trans h.heap, k.os.trans h.os, k.tape.trans h.tape, k.output.trans h.output⟩
theorem Same.blk {w w' : World} (h : Same w w') {b : Nat} {cs : Array Value} {t : TypeId} (hb : Blk w b cs t) : Blk w' b cs t := by
  unfold Blk at hb ⊢; rw [h.heap]; exact hb
theorem Same.cell {w w' : World} (h : Same w w') (a : Addr) : w'.cell? a = w.cell? a := by simp [World.cell?, h.heap]

/-- w' is w with new blocks and with writes to the blocks of F alone. -/
structure Fr (F : Nat → Prop) (w w' : World) : Prop where
  os : w'.os = w.os
  tape : w'.tape = w.tape
  output : w'.output = w.output
  size : w.heap.size ≤ w'.heap.size
  block : ∀ k, k < w.heap.size → ¬ F k → w'.heap[k]? = w.heap[k]?

theorem Fr.refl (F : Nat → Prop) (w : World) : Fr F w w := ⟨rfl, rfl, rfl, Nat.le_refl _, fun _ _ _ => rfl⟩
theorem Fr.mono {F G : Nat → Prop} {w w' : World} (h : Fr F w w') (hs : ∀ k, k < w.heap.size → F k → G k) : Fr G w w' :=
  ⟨h.os, h.tape, h.output, h.size, fun k hk hg => h.block k hk (fun q => hg (hs k hk q))⟩
theorem Fr.trans {F : Nat → Prop} {a b c : World} (h : Fr F a b) (k : Fr F b c) : Fr F a c :=
  ⟨k.os.trans h.os, k.tape.trans h.tape, k.output.trans h.output, Nat.le_trans h.size k.size, fun i hi hf => (k.block i (Nat.lt_of_lt_of_le hi h.size) hf).trans (h.block i hi hf)⟩
/-- Two steps, the second over another set: what is old and in the second is in the first. -/
theorem Fr.then {F G : Nat → Prop} {a b c : World} (h : Fr F a b) (k : Fr G b c) (hs : ∀ i, G i → F i ∨ a.heap.size ≤ i) : Fr F a c :=
  ⟨k.os.trans h.os, k.tape.trans h.tape, k.output.trans h.output, Nat.le_trans h.size k.size, fun i hi hf => (k.block i (Nat.lt_of_lt_of_le hi h.size) (fun g => by rcases hs i g with q | q; exact hf q; omega)).trans (h.block i hi hf)⟩
theorem Fr.set {F : Nat → Prop} {a w : World} (h : Fr F a w) {p : Addr} (hp : F p.block) (u : Value) : Fr F a (w.setCell p u) :=
  h.trans ⟨rfl, rfl, rfl, by simp [World.setCell], fun k hk hf => Below.heap_setCell _ _ _ _ (fun e => hf (e ▸ hp))⟩
theorem Fr.alloc {F : Nat → Prop} {a w : World} (h : Fr F a w) (o : Obj) : Fr F a (w.alloc o) :=
  h.trans ⟨rfl, rfl, rfl, by simp, fun k hk _ => Below.heap_alloc _ _ _ hk⟩
theorem Fr.drew {F : Nat → Prop} {a w : World} (h : Fr F a w) : Fr F a w.drew := ⟨h.os, h.tape, h.output, h.size, h.block⟩
theorem Fr.same {F : Nat → Prop} {a w w' : World} (h : Fr F a w) (k : Same w w') : Fr F a w' :=
  ⟨k.os.trans h.os, k.tape.trans h.tape, k.output.trans h.output, by rw [k.heap]; exact h.size, fun i hi hf => by rw [k.heap]; exact h.block i hi hf⟩
theorem Fr.grown {F : Nat → Prop} {a w w' : World} {row : Option Nat} (h : Fr F a w) (hg : w.grownBy w' row) (hr : ∀ k, row = some k → F k ∨ a.heap.size ≤ k) : Fr F a w' :=
  ⟨hg.os.trans h.os, hg.tape.trans h.tape, hg.output.trans h.output, Nat.le_trans h.size hg.size, fun i hi hf => (hg.block i (Nat.lt_of_lt_of_le hi h.size) (fun e => by rcases hr i e.symm with q | q; exact hf q; omega)).trans (h.block i hi hf)⟩
theorem Fr.below {F : Nat → Prop} {B : Nat} {w w' : World} (h : Fr F w w') (hF : ∀ k, F k → B ≤ k) (hB : B ≤ w.heap.size) : Below B w w' :=
  ⟨h.os, h.tape, h.output, h.size, fun k hk => h.block k (by omega) (fun q => by have := hF k q; omega)⟩
theorem Fr.of_below {B : Nat} {w w' : World} (h : Below B w w') : Fr (fun k => B ≤ k) w w' :=
  ⟨h.os, h.tape, h.output, h.size, fun k _ hf => h.block k (by omega)⟩

/-- A slice's elements: where there is one, the address is known and cell i holds f i. -/
def RowV (w : World) (a : Option Addr) (n : Nat) (f : Nat → Value) : Prop :=
  0 < n → ∃ b off, a = some ⟨b, off, none⟩ ∧ ∀ i, i < n → w.cell? ⟨b, off + i, none⟩ = some (f i)

/-- n new cells. -/
def fresh (z : Value) (n : Nat) : Array Value := madeCells z.cells n
theorem fresh_size (z : Value) (n : Nat) : (fresh z n).size = n := size_madeCells _ _

theorem run_make_n {P : Program} {t e : TypeId} {z : Value} {by_ : Nat} (ht : P.underlying t = some (.slice e)) (hi : (P.info? e).map (fun i => (i.zero, i.size, i.bytes)) = some (some z, 1, by_)) (n : Nat) (hb : by_ * n ≤ 281474976710656) (h63 : n ≤ 9223372036854775807) (w : World) :
    (Instr.makeSlice t (.int .i64 (n : Int)) (.int .i64 (n : Int))).run P w = .ok (.slice (some ⟨w.heap.size, 0, none⟩) n n) (w.alloc (.cells (fresh z n) e)) := by
  obtain ⟨i, hi, hz, hs, hby⟩ := info_parts hi
  have h := run_make (P := P) w t e i z ht hi hz .i64 .i64 n n (by omega) (by omega) (by rw [hby, ← Int.natCast_mul]; omega) (by omega)
  rw [h]
  simp [fresh, hs]

/-- A row of the call's own, filled up to k. -/
def Filled (wr : World) (g : Nat) (e : TypeId) (n k : Nat) (f : Nat → Value) : Prop := ∃ cur, Blk wr g cur e ∧ cur.size = n ∧ ∀ i, i < k → cur[i]? = some (f i)

theorem Filled.start (w : World) (e : TypeId) (z : Value) (n : Nat) (f : Nat → Value) : Filled (w.alloc (.cells (fresh z n) e)) w.heap.size e n 0 f :=
  ⟨_, Blk.made w _ e, fresh_size z n, fun i hi => by omega⟩
theorem Filled.step {wr : World} {g : Nat} {e : TypeId} {n k : Nat} {f : Nat → Value} (h : Filled wr g e n k f) (hk : k < n) : Filled (wr.setCell ⟨g, k, none⟩ (f k)) g e n (k + 1) f := by
  obtain ⟨cur, hb, hs, hc⟩ := h
  refine ⟨_, hb.set k (f k), by simpa using hs, fun i hi => ?_⟩
  by_cases e1 : i = k
  · subst e1; simp [hs, hk]
  · rw [Array.getElem?_setIfInBounds_ne (fun q => e1 q.symm)]
    exact hc i (by omega)
theorem Filled.cell {wr : World} {g : Nat} {e : TypeId} {n k : Nat} {f : Nat → Value} (h : Filled wr g e n k f) (hk : k < n) : ∃ u, wr.cell? ⟨g, k, none⟩ = some u := by
  obtain ⟨cur, hb, hs, hc⟩ := h
  exact ⟨cur[k]'(by omega), by rw [hb.cell]; simp [hs, hk]⟩
theorem Filled.free {wr : World} {g : Nat} {e : TypeId} {n k : Nat} {f : Nat → Value} (h : Filled wr g e n k f) (i : Nat) : wr.frozen? ⟨g, i, none⟩ = false := by
  obtain ⟨cur, hb, _⟩ := h
  exact hb.free i
theorem Filled.row {wr : World} {g : Nat} {e : TypeId} {n : Nat} {f : Nat → Value} (h : Filled wr g e n n f) : RowV wr (some ⟨g, 0, none⟩) n f := by
  intro _
  obtain ⟨cur, hb, hs, hc⟩ := h
  exact ⟨g, 0, rfl, fun i hi => by rw [Nat.zero_add, hb.cell, hc i hi]⟩

theorem RowV.below {w w' : World} {a : Option Addr} {n : Nat} {f : Nat → Value} (h : RowV w a n f) (hb : Below w.heap.size w w') : RowV w' a n f := by
  intro hn
  obtain ⟨b, off, ha, hc⟩ := h hn
  refine ⟨b, off, ha, fun i hi => ?_⟩
  rw [hb.cell (by exact World.block_lt_of_cell? w _ (hc i hi))]
  exact hc i hi

/-- What a copy leaves. -/
def Copied (w : World) (n : Nat) (f : Nat → Value) (e : Ending) (w' : World) : Prop :=
  ∃ a c, e = .returned (.slice a n c) ∧ RowV w' a n f ∧ Below w.heap.size w w'

theorem Copied.nil (w : World) (f : Nat → Value) : Copied w 0 f (.returned (.slice none 0 0)) w :=
  ⟨none, 0, rfl, fun h => absurd h (Nat.lt_irrefl _), Below.refl _ _⟩
theorem Copied.mk {w w' : World} {n : Nat} {f : Nat → Value} {e : TypeId} (h : Filled w' w.heap.size e n n f) (hb : Below w.heap.size w w') : Copied w n f (.returned (.slice (some ⟨w.heap.size, 0, none⟩) n n)) w' :=
  ⟨_, _, rfl, h.row, hb⟩

theorem run_make_cap {P : Program} {t e : TypeId} {z : Value} {by_ : Nat} (ht : P.underlying t = some (.slice e)) (hi : (P.info? e).map (fun i => (i.zero, i.size, i.bytes)) = some (some z, 1, by_)) (n : Nat) (hb : by_ * n ≤ 281474976710656) (h63 : n ≤ 9223372036854775807) (w : World) :
    (Instr.makeSlice t (.int .i64 0) (.int .i64 (n : Int))).run P w = .ok (.slice (some ⟨w.heap.size, 0, none⟩) 0 n) (w.alloc (.cells (fresh z n) e)) := by
  obtain ⟨i, hi, hz, hs, hby⟩ := info_parts hi
  have h := run_make (P := P) w t e i z ht hi hz .i64 .i64 0 n (by omega) (by omega) (by rw [hby, ← Int.natCast_mul]; omega) (by omega)
  rw [h]
  simp [fresh, hs]

theorem Below.same' {B : Nat} {a w w' : World} (h : Below B a w) (k : Same w w') : Below B a w' :=
  ⟨k.os.trans h.os, k.tape.trans h.tape, k.output.trans h.output, by rw [k.heap]; exact h.size, fun i hi => by rw [k.heap]; exact h.block i hi⟩
theorem Same.below (B : Nat) {w w' : World} (k : Same w w') : Below B w w' := Below.same' (Below.refl B w) k
theorem Same.owns {w w' : World} (k : Same w w') {base : Nat} {e : TypeId} {size : Nat} {v : Value} {n : Nat} {xs : List Value} (h : w.ownsRow base e size v n xs) : w'.ownsRow base e size v n xs := by
  obtain ⟨h1, h2⟩ := h
  refine ⟨h1, ?_⟩
  rcases h2 with h2 | ⟨g, cap, cur, hv, hg, hh, r⟩
  · exact Or.inl h2
  · exact Or.inr ⟨g, cap, cur, hv, hg, by rw [k.heap]; exact hh, r⟩

/-- Elements in blocks below B. -/
def RowB (B : Nat) (w : World) (a : Option Addr) (n : Nat) (f : Nat → Value) : Prop :=
  0 < n → ∃ b off, a = some ⟨b, off, none⟩ ∧ b < B ∧ ∀ i, i < n → w.cell? ⟨b, off + i, none⟩ = some (f i)
theorem RowB.row {B : Nat} {w : World} {a : Option Addr} {n : Nat} {f : Nat → Value} (h : RowB B w a n f) : RowV w a n f := fun hn => by
  obtain ⟨b, off, ha, _, hc⟩ := h hn
  exact ⟨b, off, ha, hc⟩
theorem RowV.rowB {w : World} {a : Option Addr} {n : Nat} {f : Nat → Value} (h : RowV w a n f) : RowB w.heap.size w a n f := fun hn => by
  obtain ⟨b, off, ha, hc⟩ := h hn
  exact ⟨b, off, ha, World.block_lt_of_cell? w _ (hc 0 hn), hc⟩
theorem RowB.below {B : Nat} {w w' : World} {a : Option Addr} {n : Nat} {f : Nat → Value} (h : RowB B w a n f) (hb : Below B w w') : RowB B w' a n f := fun hn => by
  obtain ⟨b, off, ha, hlt, hc⟩ := h hn
  exact ⟨b, off, ha, hlt, fun i hi => (hb.cell (by exact hlt)).trans (hc i hi)⟩
theorem Same.drewN {w w' : World} (h : Same w w') (n : Nat) : Same w (w'.drewN n) := ⟨h.heap, h.os, h.tape, h.output⟩

end Go.Proofs.Qxb6000727a
