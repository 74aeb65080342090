/-
  THE MEMORY OF ONE Tokens, AS AN ABSTRACT STATE: the names known (K), the queue of the free (Q), where each name's entry lies (blk); 'Tok w S': memory w holds S.
-/
import Derived.Test.Qxb6000035aRows
import Derived.Test.Qxb6000035aPlain
import Derived.WalkKit
import Derived.WalkSpells
import Derived.WalkLawsBesides
import Derived.Maps.OwnSet
set_option linter.unusedSimpArgs false
set_option linter.unusedVariables false
namespace Go.Proofs.Qxb6000035a
open Go.RowKit Go.Maps

theorem str_eq (a b : ByteArray) : (a.toList == b.toList) = decide (a = b) := by
  rw [ByteArray.toList_eq, ByteArray.toList_eq]
  rw [Bool.eq_iff_iff]
  simp only [beq_iff_eq, decide_eq_true_eq]
  constructor
  · intro h
    exact ByteArray.ext (Array.toList_inj.1 h)
  · intro h; rw [h]

theorem hide {p : Prop} (h : p) : Hid p := h

/-! ### blocks -/
/-- Block b is a row of cells of type t, none frozen. -/
def Blk (w : World) (b : Nat) (cs : Array Value) (t : TypeId) : Prop := w.heap[b]? = some (.cells cs t (0, 0))

theorem Blk.cell {w : World} {b : Nat} {cs : Array Value} {t : TypeId} (h : Blk w b cs t) (i : Nat) : w.cell? ⟨b, i, none⟩ = cs[i]? := by
  unfold Blk at h
  simp [World.cell?, h]
theorem Blk.free {w : World} {b : Nat} {cs : Array Value} {t : TypeId} (h : Blk w b cs t) (i : Nat) : w.frozen? ⟨b, i, none⟩ = false := by
  unfold Blk at h
  simp [World.frozen?, h]
theorem Blk.lt {w : World} {b : Nat} {cs : Array Value} {t : TypeId} (h : Blk w b cs t) : b < w.heap.size := (Array.getElem?_eq_some_iff.1 h).1
theorem Blk.ne {w : World} {b b' : Nat} {cs cs' : Array Value} {t t' : TypeId} (h : Blk w b cs t) (h' : Blk w b' cs' t') (ht : t ≠ t') : b ≠ b' := by
  rintro rfl
  unfold Blk at h h'
  rw [h] at h'
  simp at h'
  exact ht h'.2
theorem Blk.set {w : World} {b : Nat} {cs : Array Value} {t : TypeId} (h : Blk w b cs t) (i : Nat) (v : Value) : Blk (w.setCell ⟨b, i, none⟩ v) b (cs.setIfInBounds i v) t := by
  unfold Blk at h ⊢
  simp only [World.setCell, Array.getElem?_modify, if_true, h]
  rfl
theorem Blk.off {w : World} {b : Nat} {cs : Array Value} {t : TypeId} (h : Blk w b cs t) {b' : Nat} (hne : b' ≠ b) (i : Nat) (v : Value) : Blk (w.setCell ⟨b', i, none⟩ v) b cs t := by
  unfold Blk at h ⊢
  rw [Below.heap_setCell _ _ _ _ (by simpa using fun e => hne e.symm)]
  exact h
theorem Blk.seti {w : World} {k : Nat} {cs : Array Value} {t : TypeId} (h : Blk w k cs t) (b i : Nat) (v : Value) : Blk (w.setCell ⟨b, i, none⟩ v) k (if k = b then cs.setIfInBounds i v else cs) t := by
  by_cases e : k = b
  · subst e; rw [if_pos rfl]; exact h.set i v
  · rw [if_neg e]; exact h.off (fun q => e q.symm) i v
theorem Blk.drew {w : World} {b : Nat} {cs : Array Value} {t : TypeId} (h : Blk w b cs t) : Blk w.drew b cs t := h
theorem Blk.alloc {w : World} {b : Nat} {cs : Array Value} {t : TypeId} (h : Blk w b cs t) (o : Obj) : Blk (w.alloc o) b cs t := by
  have hl := h.lt
  unfold Blk at h ⊢
  rw [Below.heap_alloc _ _ _ hl]
  exact h
theorem Blk.made (w : World) (cs : Array Value) (t : TypeId) : Blk (w.alloc (.cells cs t)) w.heap.size cs t := heap_alloc_new w _
theorem Blk.keep {w w' : World} {b : Nat} {cs : Array Value} {t : TypeId} (h : Blk w b cs t) (e : w'.heap[b]? = w.heap[b]?) : Blk w' b cs t := e.trans h

/-- The same memory: only draws lie between. -/
structure Same (w w' : World) : Prop where
  heap : w'.heap = w.heap
  os : w'.os = w.os
  tape : w'.tape = w.tape
  output : w'.output = w.output
theorem Same.refl (w : World) : Same w w := ⟨rfl, rfl, rfl, rfl⟩
theorem Same.drew {w w' : World} (h : Same w w') : Same w w'.drew := ⟨h.heap, h.os, h.tape, h.output⟩
theorem Same.trans {a b c : World} (h : Same a b) (k : Same b c) : Same a c := ⟨k.heap.trans h.heap, k.os.trans h.os, k.tape.trans h.tape, k.output.trans h.output⟩
theorem Same.blk {w w' : World} (h : Same w w') {b : Nat} {cs : Array Value} {t : TypeId} (hb : Blk w b cs t) : Blk w' b cs t := by
  unfold Blk at hb ⊢; rw [h.heap]; exact hb
theorem Same.cell {w w' : World} (h : Same w w') (a : Addr) : w'.cell? a = w.cell? a := by simp [World.cell?, h.heap]

/-- w' is w with new blocks and with writes to the blocks of F alone. -/
structure Fr (F : Nat → Prop) (w w' : World) : Prop where
  os : w'.os = w.os
  tape : w'.tape = w.tape
  output : w'.output = w.output
  size : w.heap.size ≤ w'.heap.size
  block : ∀ k, k < w.heap.size → ¬ F k → w'.heap[k]? = w.heap[k]?

theorem Fr.refl (F : Nat → Prop) (w : World) : Fr F w w := ⟨rfl, rfl, rfl, Nat.le_refl _, fun _ _ _ => rfl⟩
theorem Fr.mono {F G : Nat → Prop} {w w' : World} (h : Fr F w w') (hs : ∀ k, k < w.heap.size → F k → G k) : Fr G w w' :=
  ⟨h.os, h.tape, h.output, h.size, fun k hk hg => h.block k hk (fun q => hg (hs k hk q))⟩
theorem Fr.trans {F : Nat → Prop} {a b c : World} (h : Fr F a b) (k : Fr F b c) : Fr F a c :=
  ⟨k.os.trans h.os, k.tape.trans h.tape, k.output.trans h.output, Nat.le_trans h.size k.size, fun i hi hf => (k.block i (Nat.lt_of_lt_of_le hi h.size) hf).trans (h.block i hi hf)⟩
/-- Two steps, the second over another set: what is old and in the second is in the first. -/
theorem Fr.then {F G : Nat → Prop} {a b c : World} (h : Fr F a b) (k : Fr G b c) (hs : ∀ i, G i → F i ∨ a.heap.size ≤ i) : Fr F a c :=
  ⟨k.os.trans h.os, k.tape.trans h.tape, k.output.trans h.output, Nat.le_trans h.size k.size, fun i hi hf => (k.block i (Nat.lt_of_lt_of_le hi h.size) (fun g => by rcases hs i g with q | q; exact hf q; omega)).trans (h.block i hi hf)⟩
theorem Fr.set {F : Nat → Prop} {a w : World} (h : Fr F a w) {p : Addr} (hp : F p.block) (u : Value) : Fr F a (w.setCell p u) :=
  h.trans ⟨rfl, rfl, rfl, by simp [World.setCell], fun k hk hf => Below.heap_setCell _ _ _ _ (fun e => hf (e ▸ hp))⟩
theorem Fr.alloc {F : Nat → Prop} {a w : World} (h : Fr F a w) (o : Obj) : Fr F a (w.alloc o) :=
  h.trans ⟨rfl, rfl, rfl, by simp, fun k hk _ => Below.heap_alloc _ _ _ hk⟩
theorem Fr.drew {F : Nat → Prop} {a w : World} (h : Fr F a w) : Fr F a w.drew := ⟨h.os, h.tape, h.output, h.size, h.block⟩
theorem Fr.same {F : Nat → Prop} {a w w' : World} (h : Fr F a w) (k : Same w w') : Fr F a w' :=
  ⟨k.os.trans h.os, k.tape.trans h.tape, k.output.trans h.output, by rw [k.heap]; exact h.size, fun i hi hf => by rw [k.heap]; exact h.block i hi hf⟩
theorem Fr.grown {F : Nat → Prop} {a w w' : World} {row : Option Nat} (h : Fr F a w) (hg : w.grownBy w' row) (hr : ∀ k, row = some k → F k ∨ a.heap.size ≤ k) : Fr F a w' :=
  ⟨hg.os.trans h.os, hg.tape.trans h.tape, hg.output.trans h.output, Nat.le_trans h.size hg.size, fun i hi hf => (hg.block i (Nat.lt_of_lt_of_le hi h.size) (fun e => by rcases hr i e.symm with q | q; exact hf q; omega)).trans (h.block i hi hf)⟩
theorem Fr.below {F : Nat → Prop} {B : Nat} {w w' : World} (h : Fr F w w') (hF : ∀ k, F k → B ≤ k) (hB : B ≤ w.heap.size) : Below B w w' :=
  ⟨h.os, h.tape, h.output, h.size, fun k hk => h.block k (by omega) (fun q => by have := hF k q; omega)⟩
theorem Fr.of_below {B : Nat} {w w' : World} (h : Below B w w') : Fr (fun k => B ≤ k) w w' :=
  ⟨h.os, h.tape, h.output, h.size, fun k _ hf => h.block k (by omega)⟩

/-! ### the abstract state -/
structure TS where
  tb : Nat
  mo : Option Nat
  blk : ByteArray → Nat
  K : List ByteArray
  Q : List ByteArray
  fg : Int

def ptr (blk : ByteArray → Nat) (o : Option ByteArray) : Value := .pointer (o.map fun x => ⟨blk x, 0, none⟩)

def TS.ent (S : TS) (s : ByteArray) : Array Value :=
  #[.string s, .int .u64 S.fg, .int .u64 0, .bool (isIn s S.Q), ptr S.blk (pre S.Q s), ptr S.blk (suc S.Q s)]

def TS.hdr (S : TS) : Array Value :=
  #[.map S.mo, ptr S.blk S.Q.head?, ptr S.blk S.Q.getLast?, .int .i64 S.Q.length, .int .u64 S.fg]

/-- How an element of the map reads: nil, or the number of the block that it leads to. -/
def pE (v : Value) : Option (DataW Unit × List MemPlace) :=
  match v with
  | .pointer none => some (.nil, [])
  | .pointer (some ⟨b, 0, none⟩) => some (.lit (.int .i64 b), [])
  | _ => none

theorem pE_nil : pE (.pointer none) = some (.nil, []) := rfl
theorem pE_some (b : Nat) : pE (.pointer (some ⟨b, 0, none⟩)) = some (.lit (.int .i64 b), []) := rfl
theorem pE_inv_nil {v : Value} {ps : List MemPlace} (h : pE v = some (.nil, ps)) : v = .pointer none := by
  unfold pE at h
  split at h
  · rfl
  · simp at h
  · simp at h
theorem pE_inv_some {v : Value} {b : Nat} {ps : List MemPlace} (h : pE v = some (.lit (.int .i64 b), ps)) : v = .pointer (some ⟨b, 0, none⟩) := by
  unfold pE at h
  split at h
  · simp at h
  · simp at h; rw [Int.ofNat_inj.1 h.1]
  · simp at h

def kl (s : ByteArray) : Lit := .string s.data.toList
theorem kl_inj {a b : ByteArray} (h : kl a = kl b) : a = b := by
  simp only [kl, Lit.string.injEq] at h
  exact ByteArray.ext (Array.toList_inj.1 h)

/-- What the map's datum says, name by name. -/
def Says (D : DataW Unit) (K : List ByteArray) (blk : ByteArray → Nat) : Prop :=
  ∀ s : ByteArray, s.size ≤ maxLen → Maps.has D (kl s) = isIn s K ∧ D.atKey (kl s) .nil = if isIn s K = true then .lit (.int .i64 (blk s)) else .nil

structure Tok (w : World) (S : TS) : Prop where
  hdr : Blk w S.tb S.hdr 45
  ent : ∀ s ∈ S.K, Blk w (S.blk s) (S.ent s) 60
  inj : ∀ s ∈ S.K, ∀ s' ∈ S.K, S.blk s = S.blk s' → s = s'
  ndK : S.K.Nodup
  ndQ : S.Q.Nodup
  sub : ∀ s ∈ S.Q, s ∈ S.K
  small : ∀ s ∈ S.K, s.size ≤ maxLen
  map : (S.mo = none ∧ S.K = []) ∨ ∃ mb D, S.mo = some mb ∧ w.ownsMap Try.prog 9 pE mb S.K.length D ∧ Says D S.K S.blk

/-- The blocks of a state. -/
def TS.foot (S : TS) (k : Nat) : Prop := k = S.tb ∨ S.mo = some k ∨ ∃ s ∈ S.K, S.blk s = k

theorem law9 : Keyed Try.prog 9 := string_keyed Try.underlying9
theorem zero43 (w : World) : (zeroValue 43).run Try.prog w = .ok (.pointer none) w := by kernel_rfl
theorem key9 {s : ByteArray} (h : s.size ≤ maxLen) : keyOf Try.prog 9 (.string s) = some (kl s) := Go.WideMaps.keyOf_string_mk Try.underlying9 h

/-- 'e, ok := t.known[r]' -/
theorem Tok.look_ok {w : World} {S : TS} (h : Tok w S) (r : ByteArray) (hr : r.size ≤ maxLen) :
    (Instr.lookup 42 (.map S.mo) (.string r) true).run Try.prog w = .ok (.tuple #[.pointer (if isIn r S.K = true then some ⟨S.blk r, 0, none⟩ else none), .bool (isIn r S.K)]) w := by
  rcases h.map with ⟨hm, hK⟩ | ⟨mb, D, hm, hown, hs⟩
  · rw [hm, hK, isIn_no (List.not_mem_nil)]
    simpa using Maps.look_nil (w := w) true law9 Try.underlying42 (zero43 w) (key9 hr)
  · rw [hm]
    obtain ⟨v, ps, hrun, hv⟩ := hown.look_ok law9 Try.underlying42 (zero43 w) pE_nil (key9 hr)
    rw [hrun, (hs r hr).1]
    rw [(hs r hr).2] at hv
    by_cases hK : isIn r S.K = true
    · rw [if_pos hK] at hv ⊢
      rw [pE_inv_some hv]
    · rw [if_neg hK] at hv ⊢
      rw [pE_inv_nil hv]

/-- 'e := t.known[r]' -/
theorem Tok.look {w : World} {S : TS} (h : Tok w S) (r : ByteArray) (hr : r.size ≤ maxLen) :
    (Instr.lookup 42 (.map S.mo) (.string r) false).run Try.prog w = .ok (.pointer (if isIn r S.K = true then some ⟨S.blk r, 0, none⟩ else none)) w := by
  rcases h.map with ⟨hm, hK⟩ | ⟨mb, D, hm, hown, hs⟩
  · rw [hm, hK, isIn_no (List.not_mem_nil)]
    simpa using Maps.look_nil (w := w) false law9 Try.underlying42 (zero43 w) (key9 hr)
  · rw [hm]
    obtain ⟨v, ps, hrun, hv⟩ := hown.lookup law9 Try.underlying42 (zero43 w) pE_nil (key9 hr)
    rw [hrun]
    rw [(hs r hr).2] at hv
    by_cases hK : isIn r S.K = true
    · rw [if_pos hK] at hv ⊢
      rw [pE_inv_some hv]
    · rw [if_neg hK] at hv ⊢
      rw [pE_inv_nil hv]

theorem Tok.map_ne {w : World} {S : TS} (h : Tok w S) {b mb : Nat} {cs : Array Value} {t : TypeId} (hb : Blk w b cs t) (hm : S.mo = some mb) : mb ≠ b := by
  rintro rfl
  rcases h.map with ⟨hm', _⟩ | ⟨mb', D, hm', ⟨es, clock, hown, _⟩, _⟩
  · rw [hm'] at hm; cases hm
  · rw [hm'] at hm; cases hm
    unfold Blk at hb
    rw [hown] at hb
    cases hb

/-- Memory kept on the state's own blocks: the state is kept. -/
theorem Tok.keep {w w' : World} {S : TS} (h : Tok w S) (hk : ∀ k, S.foot k → w'.heap[k]? = w.heap[k]?) : Tok w' S := by
  refine ⟨h.hdr.keep (hk _ (Or.inl rfl)), fun s hs => (h.ent s hs).keep (hk _ (Or.inr (Or.inr ⟨s, hs, rfl⟩))), h.inj, h.ndK, h.ndQ, h.sub, h.small, ?_⟩
  rcases h.map with hm | ⟨mb, D, hm, hown, hs⟩
  · exact Or.inl hm
  · refine Or.inr ⟨mb, D, hm, ?_, hs⟩
    obtain ⟨es, clock, hb, r⟩ := hown
    exact ⟨es, clock, (hk mb (Or.inr (Or.inl hm))).trans hb, r⟩

theorem Tok.foot_lt {w : World} {S : TS} (h : Tok w S) {k : Nat} (hk : S.foot k) : k < w.heap.size := by
  rcases hk with rfl | hm | ⟨s, hs, rfl⟩
  · exact h.hdr.lt
  · rcases h.map with ⟨hm', _⟩ | ⟨mb, D, hm', hown, _⟩
    · rw [hm'] at hm; cases hm
    · rw [hm'] at hm; cases hm; exact hown.lt
  · exact (h.ent s hs).lt

theorem Tok.same {w w' : World} {S : TS} (h : Tok w S) (k : Same w w') : Tok w' S := h.keep fun i _ => by rw [k.heap]

theorem Tok.frame {w w' : World} {S : TS} {F : Nat → Prop} (h : Tok w S) (hf : Fr F w w') (hd : ∀ k, S.foot k → ¬ F k) : Tok w' S :=
  h.keep fun k hk => hf.block k (h.foot_lt hk) (hd k hk)

end Go.Proofs.Qxb6000035a
