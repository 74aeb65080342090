/-
  (*fragmentCursor).deletion (34), forward.
-/
import Derived.Test.Qxb6000727aFind
import Derived.Deep.DeepCutAuto
import Derived.BigRegion
set_option linter.unusedSimpArgs false
set_option linter.unusedVariables false
namespace Go.Proofs.Qxb6000727a
open Go.RowKit

theorem cut_unique {ps : List Pc} (hg : Good ps) {q : Int} {c : Nat} (hc : c ≤ ps.length) (h1 : c = 0 ∨ lo ps (c - 1) ≤ q) (h2 : c = ps.length ∨ q < lo ps c) : cut ps q = c := by
  have hle := cut_le ps q
  rcases Nat.lt_trichotomy c (cut ps q) with g | g | g
  · have := (cut_iff ps hg q c (by omega)).2 g
    omega
  · exact g.symm
  · have h3 : lo ps (c - 1) ≤ q := by omega
    have := (cut_iff ps hg q (c - 1) (by omega)).1 h3
    omega
theorem cut_mono {ps : List Pc} (hg : Good ps) {q q' : Int} (h : q ≤ q') : cut ps q ≤ cut ps q' := by
  have hle := cut_le ps q
  rcases Nat.eq_zero_or_pos (cut ps q) with e | e
  · omega
  · have h1 := (cut_iff ps hg q (cut ps q - 1) (by omega)).2 (by omega)
    have := (cut_iff ps hg q' (cut ps q - 1) (by omega)).1 (by omega)
    omega
theorem cut_last {ps : List Pc} (hg : Good ps) {q : Int} (h : 0 < cut ps q) : lo ps (cut ps q - 1) ≤ q := by
  have hle := cut_le ps q
  exact (cut_iff ps hg q _ (by omega)).2 (by omega)

def boundF (ps : List Pc) (D : TB) (q : Int) : Value :=
  if 0 < cut ps q ∧ q < hi ps (cut ps q - 1) then keyV (D.eb (cut ps q - 1)) (hi ps (cut ps q - 1)) else if cut ps q < ps.length then keyV (D.sb (cut ps q)) (lo ps (cut ps q)) else .slice none 0 0

/-- The cursor, forward, behind the question q. -/
structure AskF (w0 w : World) (ps : List Pc) (sh : Int) (D : TB) (cb : Nat) (c : Cr) (M : List Nat) (q : Int) : Prop where
  cur : CurIn w0 w D cb c M
  rev : c.rev = false
  root : c.root = ptrB (rootp sh D 0 ps.length)
  stk : Fwd w0 ps sh D ps.length M (cut ps q)
  rdy : c.rdy = true
  pc : c.pc = found D (cut ps q)
  sq : c.sq = ans ps q
  bd : c.bd = boundF ps D q

def DelF (w0 w : World) (ps : List Pc) (sh : Int) (D : TB) (cb : Nat) (c : Cr) (q : Int) (e : Ending) (w' : World) : Prop :=
  ∃ c' M' q1, e = .returned (.int .u64 (ans ps q)) ∧ 0 ≤ q1 ∧ q1 ≤ q ∧ AskF w0 w' ps sh D cb c' M' q1 ∧ CStep w w' cb c c'

theorem withinF_ask {w0 w : World} {ps : List Pc} {sh : Int} {D : TB} (hT : Tr w0 ps sh D) {cb : Nat} {c : Cr} {M : List Nat} {q0 q : Int} (hA : AskF w0 w ps sh D cb c M q0) (hq : q0 ≤ q) (h0 : 0 ≤ q) (h1 : q ≤ 4294967295)
    {a : Option Addr} {n kc : Nat} (hK : KeyIn w a n (enc q)) :
    ∃ W : Bool, (Calls Try.prog 37 #[.pointer (some ⟨cb, 0, none⟩), .slice a n kc] w fun e w' => e = .returned (.bool W) ∧ w' = w) ∧ (W = true → ans ps q = ans ps q0) := by
  have hle := cut_le ps q0
  have hbd := hA.bd
  unfold boundF at hbd
  by_cases hin : 0 < cut ps q0 ∧ q0 < hi ps (cut ps q0 - 1)
  · rw [if_pos hin] at hbd
    obtain ⟨L, R, hf⟩ := hT.frag (i := cut ps q0 - 1) (by omega)
    have hf2 := hf.below hA.cur.bel
    have hgp := hT.good.pos (cut ps q0 - 1) (by omega)
    refine ⟨_, within_fwd hA.cur.blk hbd hA.rev (frag_end hf2 hT.good (by omega)) hK, fun hw => ?_⟩
    have hlt : q < hi ps (cut ps q0 - 1) := (cmp_lt q _ h0 h1 (by omega) (by omega)).1 (by simpa using hw)
    have hc : cut ps q = cut ps q0 := by
      refine cut_unique hT.good hle (Or.inr ?_) ?_
      · have := cut_last hT.good hin.1; omega
      · rcases Nat.lt_or_ge (cut ps q0) ps.length with g | g
        · right
          have := hT.good.asc (cut ps q0 - 1) (cut ps q0) (by omega) g
          omega
        · left; omega
    unfold ans
    rw [hc, if_pos ⟨hin.1, hlt⟩, if_pos hin]
  · rw [if_neg hin] at hbd
    have h00 : ans ps q0 = 0 := by unfold ans; rw [if_neg hin]
    rw [h00]
    have hzero : cut ps q = cut ps q0 → ans ps q = 0 := by
      intro hc
      unfold ans
      rw [hc, if_neg]
      rintro ⟨x, y⟩
      exact hin ⟨x, by omega⟩
    by_cases hn : cut ps q0 < ps.length
    · rw [if_pos hn] at hbd
      obtain ⟨L, R, hf⟩ := hT.frag hn
      have hf2 := hf.below hA.cur.bel
      have hgp := hT.good.pos (cut ps q0) hn
      refine ⟨_, within_fwd hA.cur.blk hbd hA.rev (frag_start hf2 hT.good hn) hK, fun hw => hzero ?_⟩
      have hlt : q < lo ps (cut ps q0) := (cmp_lt q _ h0 h1 (by omega) (by omega)).1 (by simpa using hw)
      refine cut_unique hT.good hle ?_ (Or.inr hlt)
      rcases Nat.eq_zero_or_pos (cut ps q0) with g | g
      · exact Or.inl g
      · have := cut_last hT.good g; exact Or.inr (by omega)
    · rw [if_neg hn] at hbd
      refine ⟨true, within_nil hA.cur.blk hbd a n kc, fun _ => hzero ?_⟩
      have h2 := cut_mono hT.good hq
      have h3 := cut_le ps q
      omega

set_option maxHeartbeats 4000000 in
set_option maxRecDepth 100000 in
theorem delF_within {w0 w : World} {ps : List Pc} {sh : Int} {D : TB} {cb : Nat} {c : Cr} {M : List Nat} {q0 q : Int} (hA : AskF w0 w ps sh D cb c M q0) (hq0 : 0 ≤ q0) (hq : q0 ≤ q)
    {a : Option Addr} {n kc : Nat} (hw : Calls Try.prog 37 #[.pointer (some ⟨cb, 0, none⟩), .slice a n kc] w fun e w' => e = .returned (.bool true) ∧ w' = w) (he : ans ps q = ans ps q0) :
    Calls Try.prog 34 #[.pointer (some ⟨cb, 0, none⟩), .slice a n kc] w (DelF w0 w ps sh D cb c q) := by
  have hcb := hA.cur.blk
  have k3 : w.cell? ⟨cb, 3, none⟩ = some (.bool true) := by have := hcb.cell 3; rw [← hA.rdy]; exact this
  have k5 : w.cell? ⟨cb, 5, none⟩ = some (.int .u64 (ans ps q)) := by have := hcb.cell 5; rw [he, ← hA.sq]; exact this
  have HW := hide hw
  have hfin : Hid (DelF w0 w ps sh D cb c q (.returned (.int .u64 (ans ps q))) w) := ⟨c, M, q0, rfl, hq0, hq, hA, CStep.refl _ _ _⟩
  clear hw hA hcb he
  go_enter Try.func34, Try.ntmps34
  go_wp2_with fail
  refine HW.out.mono ?_
  rintro e w2 ⟨rfl, rfl⟩
  go_wp2
  go_ret
  exact hfin.out

end Go.Proofs.Qxb6000727a
