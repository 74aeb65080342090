/-
  THE MODEL BESIDE THE Tokens: the slices 'known' and 'queue' while the script runs.
-/
import Derived.Test.Qxb6000035aMatch
import Derived.Test.Qxb6000035aRemove
set_option linter.unusedSimpArgs false
set_option linter.unusedVariables false
namespace Go.Proofs.Qxb6000035a
open Go.RowKit

theorem owns_frame {w w' : World} {B : Nat} {v : Value} {n : Nat} {xs : List Value} {F : Nat → Prop} (h : w.ownsRow B 9 1 v n xs) (hf : Fr F w w') (hn : ∀ g, v.ownBlock = some g → ¬ F g) : w'.ownsRow B 9 1 v n xs := by
  refine ⟨h.1, ?_⟩
  rcases h.2 with q | ⟨g, cap, cur, rfl, hb, hg, r⟩
  · exact Or.inl q
  · exact Or.inr ⟨g, cap, cur, rfl, hb, (hf.block g (Array.getElem?_eq_some_iff.1 hg).1 (hn g rfl)).trans hg, r⟩

theorem owns_base {w : World} {B B' : Nat} {v : Value} {n : Nat} {xs : List Value} (h : w.ownsRow B 9 1 v n xs) (hB : B' ≤ B) : w.ownsRow B' 9 1 v n xs := by
  refine ⟨h.1, ?_⟩
  rcases h.2 with q | ⟨g, cap, cur, hv, hb, hg, r⟩
  · exact Or.inl q
  · exact Or.inr ⟨g, cap, cur, hv, Nat.le_trans hB hb, hg, r⟩

structure Mod (w : World) (S : TS) (s : KQ) (lk lq : List ByteArray) (wr : World) (S' : TS) (vK vQ : Value) : Prop where
  ran : Ran w S s wr S'
  ok : wr.ownsRow w.heap.size 9 1 vK lk.length (strs lk)
  oq : wr.ownsRow w.heap.size 9 1 vQ lq.length (strs lq)
  ap : ∀ g, vK.ownBlock = some g → vQ.ownBlock ≠ some g
  fk : ∀ g, vK.ownBlock = some g → ¬ S'.foot g
  fq : ∀ g, vQ.ownBlock = some g → ¬ S'.foot g

theorem Mod.start {w : World} {S : TS} (h : Tok w S) (hK : S.K = []) (hQ : S.Q = []) : Mod w S ([], []) [] [] w S (.slice none 0 0) (.slice none 0 0) := by
  have hr := Ran.start h
  rw [hK, hQ] at hr
  exact ⟨hr, World.ownsRow_nil _ _ _ _, World.ownsRow_nil _ _ _ _, (fun g e => by cases e), (fun g e => by cases e), (fun g e => by cases e)⟩

/-- The Tokens' own step. -/
theorem Mod.tokens {w wr w2 : World} {S S' S2 : TS} {s s2 : KQ} {lk lq : List ByteArray} {vK vQ : Value} (h : Mod w S s lk lq wr S' vK vQ) (r : Ran w S s2 w2 S2) (hf : Fr S'.foot wr w2)
    (hfoot : ∀ k, S2.foot k → S'.foot k ∨ wr.heap.size ≤ k) : Mod w S s2 lk lq w2 S2 vK vQ := by
  refine ⟨r, owns_frame h.ok hf h.fk, owns_frame h.oq hf h.fq, h.ap, fun g e q => ?_, fun g e q => ?_⟩
  · rcases hfoot g q with p | p
    · exact h.fk g e p
    · have := (h.ok.lt g e).2; omega
  · rcases hfoot g q with p | p
    · exact h.fq g e p
    · have := (h.oq.lt g e).2; omega

theorem Ran.grown {w wr w2 : World} {S S' : TS} {s : KQ} {row : Option Nat} (h : Ran w S s wr S') (hg : wr.grownBy w2 row) (hr : ∀ g, row = some g → w.heap.size ≤ g ∧ ¬ S'.foot g) : Ran w S s w2 S' :=
  ⟨h.tok.keep fun k hk => hg.block k (h.tok.foot_lt hk) (fun e => (hr k e.symm).2 hk), h.K, h.Q, h.tb, h.fg, h.fr.grown hg (fun k e => Or.inr (hr k e).1), h.foot⟩

theorem Mod.alloc {w wr : World} {S S' : TS} {s : KQ} {lk lq : List ByteArray} {vK vQ : Value} (h : Mod w S s lk lq wr S' vK vQ) (o : Obj) : Mod w S s lk lq (wr.alloc o) S' vK vQ :=
  ⟨h.ran.grown (World.grownBy_alloc wr o none) (fun g e => by cases e), h.ok.alloc o, h.oq.alloc o, h.ap, h.fk, h.fq⟩

theorem Mod.appK {w wr w3 : World} {S S' : TS} {s : KQ} {lk lq : List ByteArray} {vK vQ vK' : Value} {r : ByteArray} (h : Mod w S s lk lq wr S' vK vQ)
    (ho : w3.ownsRow w.heap.size 9 1 vK' (lk.length + 1) (strs lk ++ [.string r])) (hg : wr.grownBy w3 vK.ownBlock) (hl : vK'.ownBlock = vK.ownBlock ∨ vK'.ownBlock = some wr.heap.size) :
    Mod w S s (lk ++ [r]) lq w3 S' vK' vQ := by
  have hq : w3.ownsRow w.heap.size 9 1 vQ lq.length (strs lq) := h.oq.kept hg (by
    by_cases e : vQ.ownBlock = none
    · exact Or.inl e
    · right
      intro e2
      obtain ⟨g, hgq⟩ := Option.ne_none_iff_exists'.1 e
      exact h.ap g (by rw [← e2]; exact hgq) hgq)
  refine ⟨h.ran.grown hg (fun g e => ⟨(h.ok.lt g e).1, h.fk g e⟩), ?_, hq, ?_, ?_, h.fq⟩
  · have e1 : (lk ++ [r]).length = lk.length + 1 := by simp
    have e2 : strs (lk ++ [r]) = strs lk ++ [.string r] := by simp [strs]
    rw [e1, e2]; exact ho
  · intro g e e2
    rcases hl with p | p
    · exact h.ap g (by rw [← p]; exact e) e2
    · rw [p] at e; cases e
      have := (h.oq.lt _ e2).2; omega
  · intro g e
    rcases hl with p | p
    · exact h.fk g (by rw [← p]; exact e)
    · rw [p] at e; cases e
      intro q; have := h.ran.tok.foot_lt q; omega

theorem Mod.appQ {w wr w3 : World} {S S' : TS} {s : KQ} {lk lq : List ByteArray} {vK vQ vQ' : Value} {r : ByteArray} (h : Mod w S s lk lq wr S' vK vQ)
    (ho : w3.ownsRow w.heap.size 9 1 vQ' (lq.length + 1) (strs lq ++ [.string r])) (hg : wr.grownBy w3 vQ.ownBlock) (hl : vQ'.ownBlock = vQ.ownBlock ∨ vQ'.ownBlock = some wr.heap.size) :
    Mod w S s lk (lq ++ [r]) w3 S' vK vQ' := by
  have hq : w3.ownsRow w.heap.size 9 1 vK lk.length (strs lk) := h.ok.kept hg (by
    by_cases e : vK.ownBlock = none
    · exact Or.inl e
    · right
      intro e2
      obtain ⟨g, hgq⟩ := Option.ne_none_iff_exists'.1 e
      exact h.ap g hgq (by rw [← e2]; exact hgq))
  refine ⟨h.ran.grown hg (fun g e => ⟨(h.oq.lt g e).1, h.fq g e⟩), hq, ?_, ?_, h.fk, ?_⟩
  · have e1 : (lq ++ [r]).length = lq.length + 1 := by simp
    have e2 : strs (lq ++ [r]) = strs lq ++ [.string r] := by simp [strs]
    rw [e1, e2]; exact ho
  · intro g e e2
    rcases hl with p | p
    · exact h.ap g e (by rw [← p]; exact e2)
    · rw [p] at e2; cases e2
      have := (h.ok.lt _ e).2; omega
  · intro g e
    rcases hl with p | p
    · exact h.fq g (by rw [← p]; exact e)
    · rw [p] at e; cases e
      intro q; have := h.ran.tok.foot_lt q; omega

/-- Below the heap's size nothing turns, and the queue is a fresh slice. -/
theorem Mod.newQ {w wr w3 : World} {S S' : TS} {s : KQ} {lk lq lq' : List ByteArray} {vK vQ vQ' : Value} (h : Mod w S s lk lq wr S' vK vQ)
    (ho : w3.ownsRow wr.heap.size 9 1 vQ' lq'.length (strs lq')) (hb : Below wr.heap.size wr w3) : Mod w S s lk lq' w3 S' vK vQ' := by
  have hg : wr.grownBy w3 none := ⟨hb.os, hb.tape, hb.output, hb.size, fun k hk _ => hb.block k hk⟩
  have hs : w.heap.size ≤ wr.heap.size := h.ran.fr.size
  refine ⟨h.ran.grown hg (fun g e => by cases e), h.ok.kept hg (by cases e : vK.ownBlock <;> simp), owns_base ho hs, fun g e e2 => ?_, h.fk, fun g e q => ?_⟩
  · have h1 := (h.ok.lt g e).2
    have h2 := (ho.lt g e2).1
    omega
  · have h1 := h.ran.tok.foot_lt q
    have h2 := (ho.lt g e).1
    omega

theorem Mod.below {w wr w3 : World} {S S' : TS} {s : KQ} {lk lq : List ByteArray} {vK vQ : Value} (h : Mod w S s lk lq wr S' vK vQ) (hb : Below wr.heap.size wr w3) : Mod w S s lk lq w3 S' vK vQ := by
  have hg : wr.grownBy w3 none := ⟨hb.os, hb.tape, hb.output, hb.size, fun k hk _ => hb.block k hk⟩
  exact ⟨h.ran.grown hg (fun g e => by cases e), h.ok.kept hg (by cases e : vK.ownBlock <;> simp), h.oq.kept hg (by cases e : vQ.ownBlock <;> simp), h.ap, h.fk, h.fq⟩

theorem Mod.callFree {w wr : World} {S S' : TS} {s : KQ} {lk lq : List ByteArray} {vK vQ : Value} (h : Mod w S s lk lq wr S' vK vQ) (r : ByteArray) (hr : r.size ≤ maxLen) (hQ : s.2.length ≤ 1000000) :
    Calls Try.prog 17 #[.pointer (some ⟨S.tb, 0, none⟩), .string r] wr fun e w' => e = .returned (.tuple #[]) ∧ ∃ S2, Mod w S (stp s r false) lk lq w' S2 vK vQ := by
  have h1 := (zzFree_any h.ran.tok r hr (by rw [h.ran.Q]; exact hQ)).mono (R' := fun e w' => e = .returned (.tuple #[]) ∧ ∃ S2, Mod w S (stp s r false) lk lq w' S2 vK vQ)
    (fun e w' q => ⟨q.1, _, h.tokens (h.ran.freed q.2.1 q.2.2) q.2.2 (fun k hk => Or.inl hk)⟩)
  rw [h.ran.tb] at h1
  exact h1

theorem Mod.callUnlink {w wr : World} {S S' : TS} {s : KQ} {lk lq : List ByteArray} {vK vQ : Value} (h : Mod w S s lk lq wr S' vK vQ) (r : ByteArray) (hr : r ∈ s.2) (hQ : s.2.length ≤ 1000000) :
    Calls Try.prog 15 #[.pointer (some ⟨S.tb, 0, none⟩), .string r] wr fun e w' => e = .returned (.tuple #[]) ∧ ∃ S2, Mod w S (s.1, del s.2 r) lk lq w' S2 vK vQ := by
  have h1 := (zzUnlink_any h.ran.tok (r := r) (by rw [h.ran.Q]; exact hr) (by rw [h.ran.Q]; exact hQ)).mono (R' := fun e w' => e = .returned (.tuple #[]) ∧ ∃ S2, Mod w S (s.1, del s.2 r) lk lq w' S2 vK vQ)
    (fun e w' q => ⟨q.1, { S' with Q := del S'.Q r }, h.tokens ⟨q.2.1, h.ran.K, by rw [← h.ran.Q], h.ran.tb, h.ran.fg, h.ran.fr.then q.2.2 h.ran.foot, h.ran.foot⟩ q.2.2 (fun k hk => Or.inl hk)⟩)
  rw [h.ran.tb] at h1
  exact h1

theorem Mod.callHold {w wr : World} {S S' : TS} {s : KQ} {lk lq : List ByteArray} {vK vQ : Value} (h : Mod w S s lk lq wr S' vK vQ) (r : ByteArray) (hr : r.size ≤ maxLen) (hQ : s.2.length ≤ 1000000) (hK : s.1.length ≤ 1000000) :
    Calls Try.prog 23 #[.pointer (some ⟨S.tb, 0, none⟩), .string r] wr fun e w' => e = .returned (.tuple #[.int .u64 S.fg, .bool false]) ∧ ∃ S2, Mod w S (stp s r true) lk lq w' S2 vK vQ := by
  have h1 := (zzHold_any h.ran.tok r hr (by rw [h.ran.Q]; exact hQ) (by rw [h.ran.K]; exact hK)).mono (R' := fun e w' => e = .returned (.tuple #[.int .u64 S'.fg, .bool false]) ∧ ∃ S2, Mod w S (stp s r true) lk lq w' S2 vK vQ)
    (fun e w' ⟨S2, q1, q2⟩ => ⟨q1, S2, h.tokens (h.ran.held q2) q2.fr q2.foot⟩)
  rw [h.ran.tb, h.ran.fg] at h1
  exact h1

theorem Mod.callFrees {w wr : World} {S S' : TS} {s : KQ} {lk lq : List ByteArray} {vK vQ : Value} (h : Mod w S s lk lq wr S' vK vQ) :
    Calls Try.prog 21 #[.pointer (some ⟨S.tb, 0, none⟩)] wr fun e w' => e = .returned (.int .i64 s.2.length) ∧ w' = wr := by
  have h1 := zzFrees_any h.ran.tok
  rw [h.ran.tb, h.ran.Q] at h1
  exact h1

end Go.Proofs.Qxb6000035a
