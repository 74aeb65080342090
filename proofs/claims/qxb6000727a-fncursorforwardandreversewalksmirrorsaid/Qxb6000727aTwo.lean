/-
  A CURSOR AND A LIST OF NODES BESIDE IT; the greatest key; the least key.
-/
import Derived.Test.Qxb6000727aWrap
set_option linter.unusedSimpArgs false
set_option linter.unusedVariables false
namespace Go.Proofs.Qxb6000727a
open Go.RowKit

/-- The cursor c at cb, and beside it the list v of the nodes L. -/
structure Pair (w0 w : World) (D : TB) (cb : Nat) (c : Cr) (M : List Nat) (v : Value) (L : List Nat) : Prop where
  cur : CurIn w0 w D cb c M
  row : w.ownsRow w0.heap.size 30 1 v L.length (ptrs D L)
  apart : ∀ k, c.v.ownBlock = some k → v.ownBlock = some k → False

section
variable {w0 w w' : World} {ps : List Pc} {sh : Int} {D : TB} {cb : Nat} {c c' : Cr} {M M' L : List Nat} {v : Value}

theorem owns_lt {B : Nat} {n : Nat} {xs : List Value} (h : w.ownsRow B 30 1 v n xs) {k : Nat} (hk : v.ownBlock = some k) : k < w.heap.size ∧ ∀ cs, ¬ Blk w k cs 57 := by
  rcases h.2 with ⟨hv, _⟩ | ⟨g, cap, cur, hv, _, hg, _⟩
  · rw [hv] at hk; cases hk
  · rw [hv] at hk
    simp [Value.ownBlock] at hk
    subst hk
    refine ⟨(Array.getElem?_eq_some_iff.1 hg).1, fun cs hb => ?_⟩
    unfold Blk at hb
    rw [hg] at hb
    simp at hb
theorem owns_keep {B : Nat} {n : Nat} {xs : List Value} (h : w.ownsRow B 30 1 v n xs) (hk : ∀ k, v.ownBlock = some k → w'.heap[k]? = w.heap[k]?) : w'.ownsRow B 30 1 v n xs := by
  refine ⟨h.1, ?_⟩
  rcases h.2 with q | ⟨g, cap, cur, hv, hb, hg, r⟩
  · exact Or.inl q
  · exact Or.inr ⟨g, cap, cur, hv, hb, by rw [hk g (by rw [hv]; rfl)]; exact hg, r⟩

/-- A step of the cursor keeps the list. -/
theorem Pair.step (h : Pair w0 w D cb c M v L) (hC : CurIn w0 w' D cb c' M') (hS : CStep w w' cb c c') : Pair w0 w' D cb c' M' v L := by
  refine ⟨hC, owns_keep h.row (fun k hk => ?_), fun k h1 h2 => ?_⟩
  · obtain ⟨hlt, hnb⟩ := owns_lt h.row hk
    refine hS.fr.block k hlt ?_
    rintro (rfl | e)
    · exact hnb _ h.cur.blk
    · exact h.apart k e hk
  · rcases hS.own k h1 with q | q
    · exact h.apart k q h2
    · have := (owns_lt h.row h2).1
      omega
theorem Pair.below (h : Pair w0 w D cb c M v L) (hb : Below w.heap.size w w') : Pair w0 w' D cb c M v L :=
  ⟨h.cur.below hb, owns_keep h.row (fun k hk => hb.block k (owns_lt h.row hk).1), h.apart⟩
theorem Pair.alloc (h : Pair w0 w D cb c M v L) (o : Obj) : Pair w0 (w.alloc o) D cb c M v L := h.below ((Below.refl _ _).alloc (Nat.le_refl _) o)

/-- A node put behind the list. -/
theorem Pair.push (h : Pair w0 w D cb c M v L) {n q : Nat} {v' : Value} {o : Obj} (hn : L.length = n) (hown : w'.ownsRow w0.heap.size 30 1 v' (n + 1) (ptrs D L ++ [nodeP D q])) (hg : (w.alloc o).grownBy w' v.ownBlock) (hl : v'.ownBlock = v.ownBlock ∨ v'.ownBlock = some (w.alloc o).heap.size) :
    (∃ g cap, v' = .slice (some ⟨g, 0, none⟩) (n + 1) cap) ∧ Pair w0 w' D cb c M v' (L ++ [q]) := by
  subst hn
  have hsz : w0.heap.size ≤ w.heap.size := h.cur.bel.size
  have hkeep : ∀ k, k < w.heap.size → v.ownBlock ≠ some k → w'.heap[k]? = w.heap[k]? := fun k hk hne => (hg.block k (by simp; omega) (fun e => hne e.symm)).trans (Below.heap_alloc _ _ _ hk)
  refine ⟨?_, ⟨⟨?_, h.cur.cbl, h.cur.blk.keep (hkeep cb h.cur.blk.lt (fun e => (owns_lt h.row e).2 _ h.cur.blk)), owns_keep h.cur.row (fun k hk => hkeep k (owns_lt h.cur.row hk).1 (fun e => h.apart k hk e))⟩, ?_, fun k h1 h2 => ?_⟩⟩
  · rcases hown.2 with ⟨_, hn⟩ | ⟨g, cap, _, hv, _⟩
    · omega
    · exact ⟨g, cap, hv⟩
  · exact (h.cur.bel.alloc hsz o).grown hg (by simp; omega) (fun k hk => (h.row.lt k hk).1)
  · have e1 : (L ++ [q]).length = L.length + 1 := by simp
    have e2 : ptrs D (L ++ [q]) = ptrs D L ++ [nodeP D q] := by simp [ptrs]
    rw [e1, e2]; exact hown
  · rcases hl with e | e
    · exact h.apart k h1 (by rw [← e]; exact h2)
    · rw [e] at h2
      have := (owns_lt h.cur.row h1).1
      simp at h2
      omega

/-- The list's value, and its cells. -/
theorem Pair.shape (h : Pair w0 w D cb c M v L) {n : Nat} (hn : L.length = n) : ∃ a cap, v = .slice a n cap ∧ w.ownsRow w0.heap.size 30 1 (.slice a n cap) n (ptrs D L) := by
  have hr := h.row
  subst hn
  rcases h.row.2 with ⟨hv, hn⟩ | ⟨g, cap, cur, hv, _⟩
  · refine ⟨none, 0, by rw [hv, hn], ?_⟩
    rw [hv] at hr
    rw [hn] at hr ⊢
    exact hr
  · exact ⟨_, cap, hv, by rw [hv] at hr; exact hr⟩
theorem owns_rowV {B : Nat} {a : Option Addr} {n cap : Nat} (h : w.ownsRow B 30 1 (.slice a n cap) n (ptrs D L)) (hL : L.length = n) : RowV w a n (fun i => nodeP D (L.getD i 0)) := by
  intro hn
  rcases h.2 with ⟨hv, hn'⟩ | ⟨g, cap', cur, hv, _⟩
  · omega
  · simp only [Value.slice.injEq] at hv
    obtain ⟨rfl, _⟩ := hv
    refine ⟨g, 0, rfl, fun i hi => ?_⟩
    have hiL : i < L.length := by omega
    have := h.cells (g := g) rfl i (nodeP D L[i]) (by simp [ptrs, hiL])
    have e : (⟨g, 0, none⟩ : Addr).add i = ⟨g, i, none⟩ := by unfold Addr.add; split <;> simp_all
    rw [e] at this
    rw [Nat.zero_add, this]
    simp [List.getD, hiL]

/-- A new list beside a new cursor. -/
theorem Pair.made (h : CurIn w0 w D cb c M) (n : Nat) (hn : n ≤ 100000) : Pair w0 (w.alloc (.cells (fresh (.pointer none) n) 30)) D cb c M (.slice (some ⟨w.heap.size, 0, none⟩) 0 n) [] := by
  refine ⟨h.alloc _, ⟨by simp [ptrs], Or.inr ⟨w.heap.size, n, _, rfl, h.bel.size, Blk.made w _ 30, Nat.zero_le _, by unfold maxLen; omega, by rw [fresh_size]; simp, by simp [ptrs]⟩⟩, fun k h1 h2 => ?_⟩
  have := (owns_lt h.row h1).1
  simp [Value.ownBlock] at h2
  omega
end

theorem cut_zero {ps : List Pc} (h : Good ps) : cut ps 0 ≤ 1 := by
  by_cases h1 : 1 < cut ps 0
  · have hl := cut_le ps 0
    have h2 := (cut_iff ps h 0 1 (by omega)).2 h1
    have h3 := h.pos 0 (by omega)
    have h4 := h.asc 0 1 (by omega) (by omega)
    omega
  · omega

def ffs : List Int := [255, 255, 255, 255, 255]
theorem cuts_ff {ps : List Pc} (h : Good ps) : Cuts ps ffs ps.length := by
  refine ⟨Nat.le_refl _, fun i hi => ⟨fun _ => hi, fun _ => ?_⟩⟩
  have := h.pos i hi
  exact cmp_ff _ (by omega) (by omega)
theorem keyB_ff {w : World} {g : Nat} (h : Blk w g #[.int .u8 255, .int .u8 255, .int .u8 255, .int .u8 255, .int .u8 255] 5) : KeyB w (some ⟨g, 0, none⟩) 5 ffs :=
  ⟨rfl, by decide, Or.inr ⟨g, rfl, h⟩⟩

theorem range_snoc (n : Nat) : List.range n ++ [n] = List.range (n + 1) := List.range_succ.symm
theorem range_at {n i : Nat} (h : i < n) : (List.range n).getD i 0 = i := by simp [List.getD, h]
/-- The first k of the pieces n - 1, n - 2, .. -/
def down (n k : Nat) : List Nat := (List.range k).map fun i => n - 1 - i
theorem down_len (n k : Nat) : (down n k).length = k := by simp [down]
theorem down_snoc (n k : Nat) : down n k ++ [n - 1 - k] = down n (k + 1) := by simp [down, List.range_succ]
theorem down_at {n k i : Nat} (h : i < k) : (down n k).getD i 0 = n - 1 - i := by simp [down, List.getD, h]

theorem Frag.same {w w' : World} {ps : List Pc} {D : TB} {i : Nat} {L R : Option Nat} (h : Frag w ps D i L R) (k : Same w w') : Frag w' ps D i L R := ⟨k.blk h.node, k.blk h.st, k.blk h.en⟩
theorem Tr.below {w w' : World} {ps : List Pc} {sh : Int} {D : TB} (h : Tr w ps sh D) (hb : Below w.heap.size w w') : Tr w' ps sh D := ⟨h.good, h.small, Tree.below hb _ _ _ h.tree⟩
theorem RowV.same {w w' : World} {a : Option Addr} {n : Nat} {f : Nat → Value} (h : RowV w a n f) (k : Same w w') : RowV w' a n f := fun hn => by
  obtain ⟨b, off, ha, hc⟩ := h hn
  exact ⟨b, off, ha, fun i hi => (k.cell _).trans (hc i hi)⟩
theorem Pair.list {w0 w : World} {D : TB} {cb : Nat} {c : Cr} {M L : List Nat} {a : Option Addr} {n cap : Nat} (h : Pair w0 w D cb c M (.slice a n cap) L) (hL : L.length = n) {f : Nat → Nat} (hf : ∀ i, i < n → L.getD i 0 = f i) : RowV w a n (fun i => nodeP D (f i)) := by
  have hr := h.row
  rw [hL] at hr
  have h1 := owns_rowV hr hL
  intro hn
  obtain ⟨b, off, ha, hc⟩ := h1 hn
  exact ⟨b, off, ha, fun i hi => by rw [hc i hi]; show some (nodeP D (L.getD i 0)) = some (nodeP D (f i)); rw [hf i hi]⟩
theorem run_make40 (n : Nat) (hn : n ≤ 100000) (w : World) : (Instr.makeSlice 40 (.int .i64 0) (.int .i64 ((n : Int) + 2))).run Try.prog w = .ok (.slice (some ⟨w.heap.size, 0, none⟩) 0 (n + 2)) (w.alloc (.cells (fresh (.pointer none) (n + 2)) 30)) := by
  have h := run_make_cap (P := Try.prog) (t := 40) Try.underlying40 Try.info30 (n + 2) (by omega) (by omega) w
  have e : ((n + 2 : Nat) : Int) = (n : Int) + 2 := by omega
  rw [e] at h
  exact h

end Go.Proofs.Qxb6000727a
