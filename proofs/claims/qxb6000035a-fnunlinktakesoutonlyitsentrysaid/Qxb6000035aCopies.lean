/-
  THE COPIES (8: []string, 9: []bool, 10: []uint16): a fresh slice of the same elements; nil stays nil.
-/
import Derived.Test.Qxb6000035aSizes
set_option linter.unusedSimpArgs false
set_option linter.unusedVariables false
namespace Go.Proofs.Qxb6000035a
open Go.RowKit

def boolAt (xs : List Bool) (i : Nat) : Value := .bool (xs.getD i false)
def u16At (xs : List Int) (i : Nat) : Value := .int .u16 (xs.getD i 0)

theorem Try.info9 : (Try.prog.info? 9).map (fun i => (i.zero, i.size, i.bytes)) = some (some (.string ⟨#[]⟩), 1, 16) := by kernel_rfl
theorem Try.info4 : (Try.prog.info? 4).map (fun i => (i.zero, i.size, i.bytes)) = some (some (.bool false), 1, 1) := by kernel_rfl
theorem Try.info36 : (Try.prog.info? 36).map (fun i => (i.zero, i.size, i.bytes)) = some (some (.int .u16 0), 1, 2) := by kernel_rfl

/-- n new cells. -/
def fresh (z : Value) (n : Nat) : Array Value := madeCells z.cells n
theorem fresh_size (z : Value) (n : Nat) : (fresh z n).size = n := size_madeCells _ _

theorem run_make_n {P : Program} {t e : TypeId} {z : Value} {by_ : Nat} (ht : P.underlying t = some (.slice e)) (hi : (P.info? e).map (fun i => (i.zero, i.size, i.bytes)) = some (some z, 1, by_)) (n : Nat) (hb : by_ * n ≤ 281474976710656) (h63 : n ≤ 9223372036854775807) (w : World) :
    (Instr.makeSlice t (.int .i64 (n : Int)) (.int .i64 (n : Int))).run P w = .ok (.slice (some ⟨w.heap.size, 0, none⟩) n n) (w.alloc (.cells (fresh z n) e)) := by
  obtain ⟨i, hi, hz, hs, hby⟩ := info_parts hi
  have h := run_make (P := P) w t e i z ht hi hz .i64 .i64 n n (by omega) (by omega) (by rw [hby, ← Int.natCast_mul]; omega) (by omega)
  rw [h]
  simp [fresh, hs]

/-- A row of the call's own, filled up to k. -/
def Filled (wr : World) (g : Nat) (e : TypeId) (n k : Nat) (f : Nat → Value) : Prop := ∃ cur, Blk wr g cur e ∧ cur.size = n ∧ ∀ i, i < k → cur[i]? = some (f i)

theorem Filled.start (w : World) (e : TypeId) (z : Value) (n : Nat) (f : Nat → Value) : Filled (w.alloc (.cells (fresh z n) e)) w.heap.size e n 0 f :=
  ⟨_, Blk.made w _ e, fresh_size z n, fun i hi => by omega⟩
theorem Filled.step {wr : World} {g : Nat} {e : TypeId} {n k : Nat} {f : Nat → Value} (h : Filled wr g e n k f) (hk : k < n) : Filled (wr.setCell ⟨g, k, none⟩ (f k)) g e n (k + 1) f := by
  obtain ⟨cur, hb, hs, hc⟩ := h
  refine ⟨_, hb.set k (f k), by simpa using hs, fun i hi => ?_⟩
  by_cases e1 : i = k
  · subst e1; simp [hs, hk]
  · rw [Array.getElem?_setIfInBounds_ne (fun q => e1 q.symm)]
    exact hc i (by omega)
theorem Filled.cell {wr : World} {g : Nat} {e : TypeId} {n k : Nat} {f : Nat → Value} (h : Filled wr g e n k f) (hk : k < n) : ∃ u, wr.cell? ⟨g, k, none⟩ = some u := by
  obtain ⟨cur, hb, hs, hc⟩ := h
  exact ⟨cur[k]'(by omega), by rw [hb.cell]; simp [hs, hk]⟩
theorem Filled.free {wr : World} {g : Nat} {e : TypeId} {n k : Nat} {f : Nat → Value} (h : Filled wr g e n k f) (i : Nat) : wr.frozen? ⟨g, i, none⟩ = false := by
  obtain ⟨cur, hb, _⟩ := h
  exact hb.free i
theorem Filled.row {wr : World} {g : Nat} {e : TypeId} {n : Nat} {f : Nat → Value} (h : Filled wr g e n n f) : RowV wr (some ⟨g, 0, none⟩) n f := by
  intro _
  obtain ⟨cur, hb, hs, hc⟩ := h
  exact ⟨g, 0, rfl, fun i hi => by rw [Nat.zero_add, hb.cell, hc i hi]⟩

theorem RowV.below {w w' : World} {a : Option Addr} {n : Nat} {f : Nat → Value} (h : RowV w a n f) (hb : Below w.heap.size w w') : RowV w' a n f := by
  intro hn
  obtain ⟨b, off, ha, hc⟩ := h hn
  refine ⟨b, off, ha, fun i hi => ?_⟩
  rw [hb.cell (by exact World.block_lt_of_cell? w _ (hc i hi))]
  exact hc i hi

/-- What a copy leaves. -/
def Copied (w : World) (n : Nat) (f : Nat → Value) (e : Ending) (w' : World) : Prop :=
  ∃ a c, e = .returned (.slice a n c) ∧ RowV w' a n f ∧ Below w.heap.size w w'

theorem Copied.nil (w : World) (f : Nat → Value) : Copied w 0 f (.returned (.slice none 0 0)) w :=
  ⟨none, 0, rfl, fun h => absurd h (Nat.lt_irrefl _), Below.refl _ _⟩
theorem Copied.mk {w w' : World} {n : Nat} {f : Nat → Value} {e : TypeId} (h : Filled w' w.heap.size e n n f) (hb : Below w.heap.size w w') : Copied w n f (.returned (.slice (some ⟨w.heap.size, 0, none⟩) n n)) w' :=
  ⟨_, _, rfl, h.row, hb⟩

theorem copyStr_any (a : Option Addr) (n c : Nat) (xs : List ByteArray) (w : World) (hr : RowV w a n (strAt xs)) (hnil : a = none → n = 0 ∧ c = 0) (hn : n ≤ 4096) :
    Calls Try.prog 8 #[.slice a n c] w (Copied w n (strAt xs)) := by
  have qn : ∀ (w : World) (a : Option Addr) (n c : Nat), (binOp .eql 23 (.slice a n c) (.slice none 0 0)).run Try.prog w = .ok (.bool a.isNone) w := fun w a n c => Lib.run_eql_slice_nil w _ _ _ _ _ _ _ Try.underlying23
  cases a with
  | none =>
    obtain ⟨rfl, rfl⟩ := hnil rfl
    clear hr hnil
    go_enter Try.func8, Try.ntmps8
    go_wp2
    go_ret
    exact Copied.nil _ _
  | some a =>
    have hmk := run_make_n (P := Try.prog) (t := 23) (e := 9) Try.underlying23 Try.info9 n (by omega) (by omega)
    clear hnil
    go_enter Try.func8, Try.ntmps8
    go_wp2
    go_loopw [4] (fun i wr => ∃ k : Nat, k ≤ n ∧ i = .int .i64 k ∧ Filled wr w.heap.size 9 n k (strAt xs) ∧ Below w.heap.size w wr) (fun i _ => n - (intOf i).toNat)
    case atStart => exact ⟨0, Nat.zero_le _, rfl, Filled.start _ _ _ _ _, (Below.refl _ _).alloc (Nat.le_refl _) _⟩
    case round =>
      obtain ⟨k, hk, rfl, hfl, hbel⟩ := hrel
      clear hmk qn
      by_cases hlt : k < n
      · obtain ⟨b, off, ha, hc⟩ := hr (by omega)
        cases ha
        have hck := hc k hlt
        have hck2 : wr.cell? ⟨b, off + k, none⟩ = some (strAt xs k) := (hbel.cell (by exact World.block_lt_of_cell? w _ hck)).trans hck
        have hst := hide (hfl.step hlt)
        obtain ⟨u, hu⟩ := hfl.cell hlt
        have hfz := hfl.free k
        have hbel' := hide (hbel.setCell (p := ⟨w.heap.size, k, none⟩) (Nat.le_refl _) (strAt xs k))
        unfold strAt at hck2
        clear hck hc hr hfl hbel
        go_wp2
        go_roundw
        case rel => exact ⟨k + 1, by omega, by go_num, hst.out, hbel'.out⟩
        case measure => simp [intOf]; omega
      · have hkn : k = n := by omega
        have hfin := hide (Copied.mk (hkn ▸ hfl) hbel)
        clear hr hfl hbel
        go_wp2
        go_ret
        exact hfin.out

theorem copyBool_any (a : Option Addr) (n c : Nat) (xs : List Bool) (w : World) (hr : RowV w a n (boolAt xs)) (hnil : a = none → n = 0 ∧ c = 0) (hn : n ≤ 4096) :
    Calls Try.prog 9 #[.slice a n c] w (Copied w n (boolAt xs)) := by
  have qn : ∀ (w : World) (a : Option Addr) (n c : Nat), (binOp .eql 24 (.slice a n c) (.slice none 0 0)).run Try.prog w = .ok (.bool a.isNone) w := fun w a n c => Lib.run_eql_slice_nil w _ _ _ _ _ _ _ Try.underlying24
  cases a with
  | none =>
    obtain ⟨rfl, rfl⟩ := hnil rfl
    clear hr hnil
    go_enter Try.func9, Try.ntmps9
    go_wp2
    go_ret
    exact Copied.nil _ _
  | some a =>
    have hmk := run_make_n (P := Try.prog) (t := 24) (e := 4) Try.underlying24 Try.info4 n (by omega) (by omega)
    clear hnil
    go_enter Try.func9, Try.ntmps9
    go_wp2
    go_loopw [4] (fun i wr => ∃ k : Nat, k ≤ n ∧ i = .int .i64 k ∧ Filled wr w.heap.size 4 n k (boolAt xs) ∧ Below w.heap.size w wr) (fun i _ => n - (intOf i).toNat)
    case atStart => exact ⟨0, Nat.zero_le _, rfl, Filled.start _ _ _ _ _, (Below.refl _ _).alloc (Nat.le_refl _) _⟩
    case round =>
      obtain ⟨k, hk, rfl, hfl, hbel⟩ := hrel
      clear hmk qn
      by_cases hlt : k < n
      · obtain ⟨b, off, ha, hc⟩ := hr (by omega)
        cases ha
        have hck := hc k hlt
        have hck2 : wr.cell? ⟨b, off + k, none⟩ = some (boolAt xs k) := (hbel.cell (by exact World.block_lt_of_cell? w _ hck)).trans hck
        have hst := hide (hfl.step hlt)
        obtain ⟨u, hu⟩ := hfl.cell hlt
        have hfz := hfl.free k
        have hbel' := hide (hbel.setCell (p := ⟨w.heap.size, k, none⟩) (Nat.le_refl _) (boolAt xs k))
        unfold boolAt at hck2
        clear hck hc hr hfl hbel
        go_wp2
        go_roundw
        case rel => exact ⟨k + 1, by omega, by go_num, hst.out, hbel'.out⟩
        case measure => simp [intOf]; omega
      · have hkn : k = n := by omega
        have hfin := hide (Copied.mk (hkn ▸ hfl) hbel)
        clear hr hfl hbel
        go_wp2
        go_ret
        exact hfin.out

theorem copyU16_any (a : Option Addr) (n c : Nat) (xs : List Int) (w : World) (hr : RowV w a n (u16At xs)) (hnil : a = none → n = 0 ∧ c = 0) (hn : n ≤ 4096) :
    Calls Try.prog 10 #[.slice a n c] w (Copied w n (u16At xs)) := by
  have qn : ∀ (w : World) (a : Option Addr) (n c : Nat), (binOp .eql 25 (.slice a n c) (.slice none 0 0)).run Try.prog w = .ok (.bool a.isNone) w := fun w a n c => Lib.run_eql_slice_nil w _ _ _ _ _ _ _ Try.underlying25
  cases a with
  | none =>
    obtain ⟨rfl, rfl⟩ := hnil rfl
    clear hr hnil
    go_enter Try.func10, Try.ntmps10
    go_wp2
    go_ret
    exact Copied.nil _ _
  | some a =>
    have hmk := run_make_n (P := Try.prog) (t := 25) (e := 36) Try.underlying25 Try.info36 n (by omega) (by omega)
    clear hnil
    go_enter Try.func10, Try.ntmps10
    go_wp2
    go_loopw [4] (fun i wr => ∃ k : Nat, k ≤ n ∧ i = .int .i64 k ∧ Filled wr w.heap.size 36 n k (u16At xs) ∧ Below w.heap.size w wr) (fun i _ => n - (intOf i).toNat)
    case atStart => exact ⟨0, Nat.zero_le _, rfl, Filled.start _ _ _ _ _, (Below.refl _ _).alloc (Nat.le_refl _) _⟩
    case round =>
      obtain ⟨k, hk, rfl, hfl, hbel⟩ := hrel
      clear hmk qn
      by_cases hlt : k < n
      · obtain ⟨b, off, ha, hc⟩ := hr (by omega)
        cases ha
        have hck := hc k hlt
        have hck2 : wr.cell? ⟨b, off + k, none⟩ = some (u16At xs k) := (hbel.cell (by exact World.block_lt_of_cell? w _ hck)).trans hck
        have hst := hide (hfl.step hlt)
        obtain ⟨u, hu⟩ := hfl.cell hlt
        have hfz := hfl.free k
        have hbel' := hide (hbel.setCell (p := ⟨w.heap.size, k, none⟩) (Nat.le_refl _) (u16At xs k))
        unfold u16At at hck2
        clear hck hc hr hfl hbel
        go_wp2
        go_roundw
        case rel => exact ⟨k + 1, by omega, by go_num, hst.out, hbel'.out⟩
        case measure => simp [intOf]; omega
      · have hkn : k = n := by omega
        have hfin := hide (Copied.mk (hkn ▸ hfl) hbel)
        clear hr hfl hbel
        go_wp2
        go_ret
        exact hfin.out

end Go.Proofs.Qxb6000035a
