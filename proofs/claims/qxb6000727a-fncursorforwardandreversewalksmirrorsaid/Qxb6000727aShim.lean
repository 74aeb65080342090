/-
  THE SHIM's ONE-LINERS: a new cursor, the deletion, seek, pop; the cursor ready for the next question.
-/
import Derived.Test.Qxb6000727aDelR
import Derived.Test.Qxb6000727aMkPieces
import Derived.Deep.RegionHeld3
set_option linter.unusedSimpArgs false
set_option linter.unusedVariables false
namespace Go.Proofs.Qxb6000727a
open Go.RowKit

def newA (P : Value) (rv : Bool) : Array Value := #[P, .bool rv, .slice none 0 0, .bool false, .pointer none, .int .u64 0, .slice none 0 0]
theorem newCur_any (w : World) (P : Option Addr) (rv : Bool) : Calls Try.prog 12 #[.pointer P, .bool rv] w fun e w' => e = .returned (.pointer (some ⟨w.heap.size, 0, none⟩)) ∧ w' = w.alloc (.cells (newA (.pointer P) rv) 57) := by
  go_enter Try.func12, Try.ntmps12
  go_wp2
  go_ret
  exact ⟨rfl, rfl⟩

def newC (P : Value) (rv : Bool) : Cr := ⟨P, rv, .slice none 0 0, false, .pointer none, 0, .slice none 0 0⟩
theorem newCur_in (w0 : World) (D : TB) (P : Value) (rv : Bool) : CurIn w0 (w0.alloc (.cells (newA P rv) 57)) D w0.heap.size (newC P rv) [] :=
  ⟨(Below.refl _ _).alloc (Nat.le_refl _) _, Nat.le_refl _, Blk.made _ _ _, World.ownsRow_nil _ _ _ _⟩

/-- The cursor is ready to be asked for q. -/
def Ready (rv : Bool) (w0 w : World) (ps : List Pc) (sh : Int) (D : TB) (cb : Nat) (c : Cr) (M : List Nat) (q : Int) : Prop :=
  if rv then ((∃ q0, AskR w0 w ps sh D cb c M q0 ∧ q ≤ q0) ∨ (CurIn w0 w D cb c M ∧ c.rdy = false ∧ c.rev = true ∧ c.root = ptrB (rootp sh D 0 ps.length)))
  else ((∃ q0, 0 ≤ q0 ∧ AskF w0 w ps sh D cb c M q0 ∧ q0 ≤ q) ∨ (CurIn w0 w D cb c M ∧ c.rdy = false ∧ c.rev = false ∧ c.root = ptrB (rootp sh D 0 ps.length)))

section
variable {w0 w : World} {ps : List Pc} {sh : Int} {D : TB} {cb : Nat} {c : Cr} {M : List Nat} {q : Int}
theorem Ready.cur {rv : Bool} (h : Ready rv w0 w ps sh D cb c M q) : CurIn w0 w D cb c M := by
  unfold Ready at h
  cases rv
  · rcases h with ⟨q0, _, hA, _⟩ | ⟨hC, _⟩
    · exact hA.cur
    · exact hC
  · rcases h with ⟨q0, hA, _⟩ | ⟨hC, _⟩
    · exact hA.cur
    · exact hC
theorem Ready.fwd {q' : Int} (h : Ready false w0 w ps sh D cb c M q) (hq : q ≤ q') : Ready false w0 w ps sh D cb c M q' := by
  rcases h with ⟨q0, h0, hA, hle⟩ | hC
  · exact Or.inl ⟨q0, h0, hA, Int.le_trans hle hq⟩
  · exact Or.inr hC
theorem Ready.rev {q' : Int} (h : Ready true w0 w ps sh D cb c M q) (hq : q' ≤ q) : Ready true w0 w ps sh D cb c M q' := by
  rcases h with ⟨q0, hA, hle⟩ | hC
  · exact Or.inl ⟨q0, hA, Int.le_trans hq hle⟩
  · exact Or.inr hC
theorem Ready.same {rv : Bool} {w' : World} (h : Ready rv w0 w ps sh D cb c M q) (k : Same w w') : Ready rv w0 w' ps sh D cb c M q := by
  unfold Ready at h ⊢
  cases rv
  · rcases h with ⟨q0, h0, hA, hle⟩ | ⟨hC, r⟩
    · exact Or.inl ⟨q0, h0, ⟨hA.cur.same k, hA.rev, hA.root, hA.stk, hA.rdy, hA.pc, hA.sq, hA.bd⟩, hle⟩
    · exact Or.inr ⟨hC.same k, r⟩
  · rcases h with ⟨q0, hA, hle⟩ | ⟨hC, r⟩
    · exact Or.inl ⟨q0, ⟨hA.cur.same k, hA.rev, hA.root, hA.stk, hA.rdy, hA.pc, hA.sq, hA.bd⟩, hle⟩
    · exact Or.inr ⟨hC.same k, r⟩

/-- The cursor's memory is kept where blocks are only added. -/
theorem CurIn.alloc (h : CurIn w0 w D cb c M) (o : Obj) : CurIn w0 (w.alloc o) D cb c M :=
  ⟨h.bel.alloc h.bel.size o, h.cbl, h.blk.alloc o, h.row.alloc o⟩
theorem Ready.alloc {rv : Bool} (h : Ready rv w0 w ps sh D cb c M q) (o : Obj) : Ready rv w0 (w.alloc o) ps sh D cb c M q := by
  unfold Ready at h ⊢
  cases rv
  · rcases h with ⟨q0, h0, hA, hle⟩ | ⟨hC, r⟩
    · exact Or.inl ⟨q0, h0, ⟨hA.cur.alloc o, hA.rev, hA.root, hA.stk, hA.rdy, hA.pc, hA.sq, hA.bd⟩, hle⟩
    · exact Or.inr ⟨hC.alloc o, r⟩
  · rcases h with ⟨q0, hA, hle⟩ | ⟨hC, r⟩
    · exact Or.inl ⟨q0, ⟨hA.cur.alloc o, hA.rev, hA.root, hA.stk, hA.rdy, hA.pc, hA.sq, hA.bd⟩, hle⟩
    · exact Or.inr ⟨hC.alloc o, r⟩

def Asked (rv : Bool) (w0 : World) (ps : List Pc) (sh : Int) (D : TB) (cb : Nat) (q : Int) (e : Ending) (w' : World) : Prop :=
  ∃ c' M', e = .returned (.int .u64 (ans ps q)) ∧ Ready rv w0 w' ps sh D cb c' M' q

theorem del_any {rv : Bool} (hT : Tr w0 ps sh D) (h : Ready rv w0 w ps sh D cb c M q) (h0 : 0 ≤ q) (h1 : q ≤ 4294967295) {a : Option Addr} {n kc : Nat} (hK : KeyB w a n (enc q)) :
    Calls Try.prog 34 #[.pointer (some ⟨cb, 0, none⟩), .slice a n kc] w (Asked rv w0 ps sh D cb q) := by
  cases rv with
  | false =>
    refine (delF_any hT h h0 h1 hK).mono ?_
    rintro e w' ⟨c', M', q1, he, h00, hle, hA, _⟩
    exact ⟨c', M', he, Or.inl ⟨q1, h00, hA, hle⟩⟩
  | true =>
    refine (delR_any hT h h0 h1 hK).mono ?_
    rintro e w' ⟨c', M', q1, he, hle, hA, _⟩
    exact ⟨c', M', he, Or.inl ⟨q1, hA, hle⟩⟩

theorem del24_any {rv : Bool} (hT : Tr w0 ps sh D) (h : Ready rv w0 w ps sh D cb c M q) (h0 : 0 ≤ q) (h1 : q ≤ 4294967295) {a : Option Addr} {n kc : Nat} (hK : KeyB w a n (enc q)) :
    Calls Try.prog 24 #[.pointer (some ⟨cb, 0, none⟩), .slice a n kc] w (Asked rv w0 ps sh D cb q) := by
  have H := hide (del_any (kc := kc) hT h h0 h1 hK)
  clear hT h hK
  go_enter Try.func24, Try.ntmps24
  go_wp2_with fail
  refine H.out.mono ?_
  rintro e w' ⟨c', M', rfl, hR⟩
  have HR := hide hR
  clear hR
  go_wp2
  go_ret
  exact ⟨c', M', rfl, HR.out⟩

theorem del27_any (hT : Tr w0 ps sh D) (hbel : Below w0.heap.size w0 w) (h0 : 0 ≤ q) (h1 : q ≤ 4294967295) {a : Option Addr} {n kc : Nat} (hK : KeyIn w a n (enc q)) :
    Calls Try.prog 27 #[ptrB (rootp sh D 0 ps.length), .slice a n kc] w fun e w' => e = .returned (.int .u64 (ans ps q)) ∧ Same w w' := by
  have H := hide (fragDel_any (kc := kc) hT hbel h0 h1 hK)
  obtain ⟨P, hP⟩ : ∃ P, ptrB (rootp sh D 0 ps.length) = .pointer P := ⟨_, rfl⟩
  rw [hP] at H ⊢
  clear hT hbel hK hP
  go_enter Try.func27, Try.ntmps27
  go_wp2_with fail
  refine H.out.mono ?_
  rintro e w' ⟨rfl, hS⟩
  have HS := hide hS
  clear hS
  go_wp2
  go_ret
  exact ⟨rfl, HS.out⟩
end

end Go.Proofs.Qxb6000727a
