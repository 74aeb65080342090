/-
  THE CURSOR: its memory, its stack of nodes (forward, in reverse).
-/
import Derived.Test.Qxb6000727aTree
set_option linter.unusedSimpArgs false
set_option linter.unusedVariables false
namespace Go.Proofs.Qxb6000727a
open Go.RowKit

/-- The world in which the tree was built. -/
structure Tr (w0 : World) (ps : List Pc) (sh : Int) (D : TB) : Prop where
  good : Good ps
  small : ps.length ≤ 4096
  tree : Tree w0 ps sh D ps.length 0 ps.length

def nodeP (D : TB) (i : Nat) : Value := .pointer (some ⟨D.blk i, 0, none⟩)
def ptrs (D : TB) (M : List Nat) : List Value := M.map (nodeP D)
theorem ptrs_len (D : TB) (M : List Nat) : (ptrs D M).length = M.length := by simp [ptrs]

/-- The stack of a cursor that goes forward: from the bottom; each node's right subtree is all that lies between it and the node below. -/
def Fwd (w : World) (ps : List Pc) (sh : Int) (D : TB) : Nat → List Nat → Nat → Prop
  | h, [], cur => cur = h
  | h, m :: M, cur => m < h ∧ (∃ L f, Frag w ps D m L (rootp sh D (m + 1) h) ∧ Tree w ps sh D f (m + 1) h ∧ h - (m + 1) ≤ f) ∧ Fwd w ps sh D m M cur
/-- .. in reverse: each node's left subtree. -/
def Rev (w : World) (ps : List Pc) (sh : Int) (D : TB) : Nat → List Nat → Nat → Prop
  | l, [], cur => cur = l
  | l, m :: M, cur => l ≤ m ∧ (∃ R f, Frag w ps D m (rootp sh D l m) R ∧ Tree w ps sh D f l m ∧ m - l ≤ f) ∧ Rev w ps sh D (m + 1) M cur

section
variable {w : World} {ps : List Pc} {sh : Int} {D : TB}

theorem Fwd.len : ∀ {h : Nat} {M : List Nat} {cur : Nat}, Fwd w ps sh D h M cur → M.length + cur ≤ h
  | h, [], cur, e => by simp only [Fwd] at e; simp; omega
  | h, m :: M, cur, e => by
    have := Fwd.len e.2.2
    have := e.1
    simp only [List.length_cons]; omega
theorem Rev.len : ∀ {l : Nat} {M : List Nat} {cur : Nat}, Rev w ps sh D l M cur → M.length + l ≤ cur
  | l, [], cur, e => by simp only [Rev] at e; simp; omega
  | l, m :: M, cur, e => by
    have := Rev.len e.2.2
    have := e.1
    simp only [List.length_cons]; omega

theorem Fwd.snoc : ∀ {h : Nat} {M : List Nat} {c m : Nat}, Fwd w ps sh D h M c → m < c → (∃ L f, Frag w ps D m L (rootp sh D (m + 1) c) ∧ Tree w ps sh D f (m + 1) c ∧ c - (m + 1) ≤ f) → Fwd w ps sh D h (M ++ [m]) m
  | h, [], c, m, e, hm, hf => by simp only [Fwd] at e; subst e; exact ⟨hm, hf, rfl⟩
  | h, x :: M, c, m, e, hm, hf => ⟨e.1, e.2.1, Fwd.snoc e.2.2 hm hf⟩
theorem Rev.snoc : ∀ {l : Nat} {M : List Nat} {c m : Nat}, Rev w ps sh D l M c → c ≤ m → (∃ R f, Frag w ps D m (rootp sh D c m) R ∧ Tree w ps sh D f c m ∧ m - c ≤ f) → Rev w ps sh D l (M ++ [m]) (m + 1)
  | l, [], c, m, e, hm, hf => by simp only [Rev] at e; subst e; exact ⟨hm, hf, rfl⟩
  | l, x :: M, c, m, e, hm, hf => ⟨e.1, e.2.1, Rev.snoc e.2.2 hm hf⟩

theorem Fwd.top : ∀ {h : Nat} {M : List Nat} {m cur : Nat}, Fwd w ps sh D h (M ++ [m]) cur → cur = m ∧ ∃ c, Fwd w ps sh D h M c ∧ m < c ∧ (∃ L f, Frag w ps D m L (rootp sh D (m + 1) c) ∧ Tree w ps sh D f (m + 1) c ∧ c - (m + 1) ≤ f)
  | h, [], m, cur, e => ⟨e.2.2, h, rfl, e.1, e.2.1⟩
  | h, x :: M, m, cur, e => by
    obtain ⟨e1, c, e2, e3⟩ := Fwd.top e.2.2
    exact ⟨e1, c, ⟨e.1, e.2.1, e2⟩, e3⟩
theorem Rev.top : ∀ {l : Nat} {M : List Nat} {m cur : Nat}, Rev w ps sh D l (M ++ [m]) cur → cur = m + 1 ∧ ∃ c, Rev w ps sh D l M c ∧ c ≤ m ∧ (∃ R f, Frag w ps D m (rootp sh D c m) R ∧ Tree w ps sh D f c m ∧ m - c ≤ f)
  | l, [], m, cur, e => ⟨e.2.2, l, rfl, e.1, e.2.1⟩
  | l, x :: M, m, cur, e => by
    obtain ⟨e1, c, e2, e3⟩ := Rev.top e.2.2
    exact ⟨e1, c, ⟨e.1, e.2.1, e2⟩, e3⟩
end

/-- A cursor's seven cells. -/
structure Cr where
  root : Value
  rev : Bool
  v : Value
  rdy : Bool
  pc : Value
  sq : Int
  bd : Value
def Cr.arr (c : Cr) : Array Value := #[c.root, .bool c.rev, c.v, .bool c.rdy, c.pc, .int .u64 c.sq, c.bd]

/-- The cursor c at block cb, its path the nodes M. -/
structure CurIn (w0 w : World) (D : TB) (cb : Nat) (c : Cr) (M : List Nat) : Prop where
  bel : Below w0.heap.size w0 w
  cbl : w0.heap.size ≤ cb
  blk : Blk w cb c.arr 57
  row : w.ownsRow w0.heap.size 30 1 c.v M.length (ptrs D M)

/-- What a step of the cursor turns: its own block and its path's row. -/
structure CStep (w w' : World) (cb : Nat) (c c' : Cr) : Prop where
  fr : Fr (fun k => k = cb ∨ c.v.ownBlock = some k) w w'
  own : ∀ k, c'.v.ownBlock = some k → c.v.ownBlock = some k ∨ w.heap.size ≤ k

theorem CStep.refl (w : World) (cb : Nat) (c : Cr) : CStep w w cb c c := ⟨Fr.refl _ _, fun k h => Or.inl h⟩
theorem CStep.trans {a b d : World} {cb : Nat} {c c' c'' : Cr} (h : CStep a b cb c c') (k : CStep b d cb c' c'') : CStep a d cb c c'' := by
  refine ⟨h.fr.then k.fr ?_, fun j hj => ?_⟩
  · rintro i (e | e)
    · exact Or.inl (Or.inl e)
    · rcases h.own i e with q | q
      · exact Or.inl (Or.inr q)
      · exact Or.inr q
  · rcases k.own j hj with q | q
    · exact h.own j q
    · have := h.fr.size; exact Or.inr (by omega)
theorem CStep.same {w w1 w2 : World} {cb : Nat} {c c' : Cr} (h : CStep w w1 cb c c') (k : Same w1 w2) : CStep w w2 cb c c' := ⟨h.fr.same k, h.own⟩

theorem CurIn.row_ne {w0 w : World} {D : TB} {cb : Nat} {c : Cr} {M : List Nat} (h : CurIn w0 w D cb c M) : c.v.ownBlock ≠ some cb := by
  intro e
  rcases h.row.2 with ⟨hv, _⟩ | ⟨g, cap, cur, hv, _, hg, _⟩
  · rw [hv] at e; cases e
  · rw [hv] at e
    simp [Value.ownBlock] at e
    subst e
    have hb := h.blk
    unfold Blk at hb
    rw [hg] at hb
    simp at hb

theorem CurIn.same {w0 w w' : World} {D : TB} {cb : Nat} {c : Cr} {M : List Nat} (h : CurIn w0 w D cb c M) (k : Same w w') : CurIn w0 w' D cb c M :=
  ⟨Below.same' h.bel k, h.cbl, k.blk h.blk, k.owns h.row⟩

/-- A store into one of the cursor's own cells but the path. -/
theorem CurIn.set {w0 w : World} {D : TB} {cb : Nat} {c c' : Cr} {M : List Nat} (h : CurIn w0 w D cb c M) (i : Nat) (x : Value) (e : c.arr.setIfInBounds i x = c'.arr) (ev : c'.v = c.v) : CurIn w0 (w.setCell ⟨cb, i, none⟩ x) D cb c' M := by
  refine ⟨h.bel.setCell (p := ⟨cb, i, none⟩) h.cbl x, h.cbl, ?_, ?_⟩
  · have := h.blk.set i x
    rw [e] at this
    exact this
  · rw [ev]
    have hne := h.row_ne
    refine ⟨h.row.1, ?_⟩
    rcases h.row.2 with q | ⟨g, cap, cur, hv, hb, hg, r⟩
    · exact Or.inl q
    · refine Or.inr ⟨g, cap, cur, hv, hb, ?_, r⟩
      rw [Below.heap_setCell _ _ _ _ (fun q => hne (by rw [hv]; simp only [Value.ownBlock]; rw [q]))]
      exact hg
theorem CStep.set {w : World} {cb : Nat} {c c' : Cr} (i : Nat) (x : Value) (ev : c'.v = c.v) : CStep w (w.setCell ⟨cb, i, none⟩ x) cb c c' :=
  ⟨(Fr.refl _ _).set (p := ⟨cb, i, none⟩) (Or.inl rfl) x, fun k hk => Or.inl (by rw [← ev]; exact hk)⟩

/-- The path's value and its cells. -/
theorem CurIn.shape {w0 w : World} {D : TB} {cb : Nat} {c : Cr} {M : List Nat} (h : CurIn w0 w D cb c M) : ∃ a cap, c.v = .slice a M.length cap := by
  rcases h.row.2 with ⟨hv, hn⟩ | ⟨g, cap, cur, hv, _⟩
  · exact ⟨none, 0, by rw [hv, hn]⟩
  · exact ⟨_, cap, hv⟩
theorem CurIn.shape_pos {w0 w : World} {D : TB} {cb : Nat} {c : Cr} {M : List Nat} (h : CurIn w0 w D cb c M) (hM : 0 < M.length) : ∃ g cap, c.v = .slice (some ⟨g, 0, none⟩) M.length cap ∧ M.length ≤ cap ∧ ∀ i (hi : i < M.length), w.cell? ⟨g, i, none⟩ = some (nodeP D M[i]) := by
  rcases h.row.2 with ⟨hv, hn⟩ | ⟨g, cap, cur, hv, _, _, hc, _⟩
  · omega
  · refine ⟨g, cap, hv, hc, fun i hi => ?_⟩
    have := h.row.cells (g := g) (by rw [hv]; rfl) i (nodeP D M[i]) (by simp [ptrs, hi])
    have e : (⟨g, 0, none⟩ : Addr).add i = ⟨g, i, none⟩ := by unfold Addr.add; split <;> simp_all
    rw [e] at this
    exact this

/-- The path cut by its last node. -/
theorem owns_cut {w : World} {B : Nat} {g n cap : Nat} {xs : List Value} {x : Value} (h : w.ownsRow B 30 1 (.slice (some ⟨g, 0, none⟩) (n + 1) cap) (n + 1) (xs ++ [x])) : w.ownsRow B 30 1 (.slice (some ⟨g, 0, none⟩) n cap) n xs := by
  have hl : xs.length = n := by have := h.1; simp at this; omega
  rcases h.2 with ⟨hv, _⟩ | ⟨g', cap', cur, hv, hb, hg, hc, hm, hs, ht⟩
  · cases hv
  · simp only [Value.slice.injEq, Option.some.injEq, Addr.mk.injEq] at hv
    obtain ⟨⟨rfl, _⟩, _, rfl⟩ := hv
    refine ⟨by omega, Or.inr ⟨g, cap, cur, rfl, hb, hg, by omega, hm, hs, ?_⟩⟩
    have h1 : cur.toList.take (n * 1) = (cur.toList.take ((n + 1) * 1)).take (n * 1) := by rw [List.take_take]; congr 1; omega
    rw [h1, ht]
    simp [hl]
/-- The path emptied. -/
theorem owns_zero {w : World} {B : Nat} {a : Option Addr} {n cap : Nat} {xs : List Value} (h : w.ownsRow B 30 1 (.slice a n cap) n xs) : w.ownsRow B 30 1 (.slice a 0 cap) 0 [] := by
  rcases h.2 with ⟨hv, _⟩ | ⟨g', cap', cur, hv, hb, hg, hc, hm, hs, ht⟩
  · simp only [Value.slice.injEq] at hv
    obtain ⟨rfl, _, rfl⟩ := hv
    exact World.ownsRow_nil _ _ _ _
  · simp only [Value.slice.injEq] at hv
    obtain ⟨rfl, _, rfl⟩ := hv
    exact ⟨by simp, Or.inr ⟨g', cap, cur, rfl, hb, hg, by omega, hm, hs, by simp⟩⟩

/-- The path field stored: the row is another. -/
theorem CurIn.path {w0 w : World} {D : TB} {cb : Nat} {c : Cr} {M' : List Nat} {v' : Value} (bel : Below w0.heap.size w0 w) (cbl : w0.heap.size ≤ cb) (blk : Blk w cb c.arr 57)
    (row : w.ownsRow w0.heap.size 30 1 v' M'.length (ptrs D M')) : CurIn w0 (w.setCell ⟨cb, 2, none⟩ v') D cb { c with v := v' } M' := by
  refine ⟨bel.setCell (p := ⟨cb, 2, none⟩) cbl v', cbl, ?_, ?_⟩
  · have := blk.set 2 v'
    exact this
  · refine ⟨row.1, ?_⟩
    rcases row.2 with q | ⟨g, cap, cur, hv, hb, hg, r⟩
    · exact Or.inl q
    · refine Or.inr ⟨g, cap, cur, hv, hb, ?_, r⟩
      have hne : g ≠ cb := by
        rintro rfl
        unfold Blk at blk
        rw [hg] at blk
        simp at blk
      rw [Below.heap_setCell _ _ _ _ hne]
      exact hg

/-- An append to the path, stored back: what is known of the world in between and behind. -/
theorem CurIn.push {w0 wr w1 : World} {ps : List Pc} {D : TB} {cb : Nat} {c : Cr} {M : List Nat} {q : Nat} {L R : Option Nat} {v' : Value} {o : Obj} (h : CurIn w0 wr D cb c M) (hf : Frag w0 ps D q L R)
    (hown : w1.ownsRow w0.heap.size 30 1 v' (M.length + 1) (ptrs D M ++ [nodeP D q])) (hg : (wr.alloc o).grownBy w1 c.v.ownBlock) (hl : v'.ownBlock = c.v.ownBlock ∨ v'.ownBlock = some (wr.alloc o).heap.size) :
    (∃ g cap, v' = .slice (some ⟨g, 0, none⟩) (M.length + 1) cap) ∧ Blk w1 cb c.arr 57 ∧ Frag w1 ps D q L R ∧ cb ≠ D.blk q ∧
      CurIn w0 (w1.setCell ⟨cb, 2, none⟩ v') D cb { c with v := v' } (M ++ [q]) ∧ CStep wr (w1.setCell ⟨cb, 2, none⟩ v') cb c { c with v := v' } := by
  have hne := h.row_ne
  have hlt := h.blk.lt
  have hb1 : Blk w1 cb c.arr 57 := (h.blk.alloc o).keep (hg.block cb (by simp; omega) (fun e => hne e.symm))
  have hsz : w0.heap.size ≤ wr.heap.size := h.bel.size
  have hbel1 : Below w0.heap.size w0 w1 := (h.bel.alloc hsz o).grown hg (by simp; omega) (fun k hk => (h.row.lt k hk).1)
  have hfr := hf.below hbel1
  have hrow : w1.ownsRow w0.heap.size 30 1 v' (M ++ [q]).length (ptrs D (M ++ [q])) := by
    have e1 : (M ++ [q]).length = M.length + 1 := by simp
    have e2 : ptrs D (M ++ [q]) = ptrs D M ++ [nodeP D q] := by simp [ptrs]
    rw [e1, e2]; exact hown
  refine ⟨?_, hb1, hfr, fun e => hb1.ne hfr.node (by decide) e, CurIn.path hbel1 h.cbl hb1 hrow, ?_, fun k hk => ?_⟩
  · rcases hown.2 with ⟨_, hn⟩ | ⟨g, cap, _, hv, _⟩
    · omega
    · exact ⟨g, cap, hv⟩
  · exact (((Fr.refl (fun k => k = cb ∨ c.v.ownBlock = some k) wr).alloc o).grown hg (fun k hk => Or.inl (Or.inr hk))).set (p := ⟨cb, 2, none⟩) (Or.inl rfl) v'
  · rcases hl with e | e
    · exact Or.inl (by rw [← e]; exact hk)
    · have hk' : v'.ownBlock = some k := hk
      rw [e] at hk'; simp at hk'; exact Or.inr (by omega)

theorem Try.info30 : (Try.prog.info? 30).map (fun i => (i.zero, i.size, i.bytes)) = some (some (.pointer none), 1, 8) := by kernel_rfl

end Go.Proofs.Qxb6000727a
