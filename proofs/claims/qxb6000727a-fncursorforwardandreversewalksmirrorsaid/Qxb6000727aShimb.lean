/-
  THE SHIM, SECOND PART: the deletion with what it keeps; seek, pop; the pieces' readers.
-/
import Derived.Test.Qxb6000727aShim
set_option linter.unusedSimpArgs false
set_option linter.unusedVariables false
namespace Go.Proofs.Qxb6000727a
open Go.RowKit

section
variable {w0 w : World} {ps : List Pc} {sh : Int} {D : TB} {cb : Nat} {c : Cr} {M : List Nat} {q : Int}

def AskedS (rv : Bool) (w0 w : World) (ps : List Pc) (sh : Int) (D : TB) (cb : Nat) (c : Cr) (q : Int) (e : Ending) (w' : World) : Prop :=
  ∃ c' M', e = .returned (.int .u64 (ans ps q)) ∧ Ready rv w0 w' ps sh D cb c' M' q ∧ CStep w w' cb c c'

theorem delS_any {rv : Bool} (hT : Tr w0 ps sh D) (h : Ready rv w0 w ps sh D cb c M q) (h0 : 0 ≤ q) (h1 : q ≤ 4294967295) {a : Option Addr} {n kc : Nat} (hK : KeyB w a n (enc q)) :
    Calls Try.prog 34 #[.pointer (some ⟨cb, 0, none⟩), .slice a n kc] w (AskedS rv w0 w ps sh D cb c q) := by
  cases rv with
  | false =>
    refine (delF_any hT h h0 h1 hK).mono ?_
    rintro e w' ⟨c', M', q1, he, h00, hle, hA, hS⟩
    exact ⟨c', M', he, Or.inl ⟨q1, h00, hA, hle⟩, hS⟩
  | true =>
    refine (delR_any hT h h0 h1 hK).mono ?_
    rintro e w' ⟨c', M', q1, he, hle, hA, hS⟩
    exact ⟨c', M', he, Or.inl ⟨q1, hA, hle⟩, hS⟩

theorem del24S_any {rv : Bool} (hT : Tr w0 ps sh D) (h : Ready rv w0 w ps sh D cb c M q) (h0 : 0 ≤ q) (h1 : q ≤ 4294967295) {a : Option Addr} {n kc : Nat} (hK : KeyB w a n (enc q)) :
    Calls Try.prog 24 #[.pointer (some ⟨cb, 0, none⟩), .slice a n kc] w (AskedS rv w0 w ps sh D cb c q) := by
  have H := hide (delS_any (kc := kc) hT h h0 h1 hK)
  clear hT h hK
  go_enter Try.func24, Try.ntmps24
  go_wp2_with fail
  refine H.out.mono ?_
  rintro e w' ⟨c', M', rfl, hR, hS⟩
  have HR := hide hR
  have HS := hide hS
  clear hR hS
  go_wp2
  go_ret
  exact ⟨c', M', rfl, HR.out, HS.out⟩

theorem enc_zero : enc 0 = [] := by decide
theorem keyB_zero (w : World) : KeyB w none 0 (enc 0) := by rw [enc_zero]; exact KeyB.nil w none
end

end Go.Proofs.Qxb6000727a
