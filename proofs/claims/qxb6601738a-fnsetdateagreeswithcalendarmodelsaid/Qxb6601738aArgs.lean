/-
  AN ARRAY OF EIGHT INTEGERS, opened.
-/
import Derived.Test.Qxb6601738aSet
import Derived.ProofKit
import Derived.OpenShut
set_option linter.unusedSimpArgs false
set_option linter.unusedVariables false
namespace Go.Proofs.Qxb6601738a
open Go.RowKit

theorem I32.of_wf {n : Int} (h : (Lit.int .i32 n).wf = true) : I32 n := bounds_i32 h

section
variable {H : Type} {enc : TypeId × Value → H} {P : Program} {w : World} {base : Nat} {spare : Nat → Bool} {held : Bool} {fuel : Nat} {t e : TypeId} {cs : List Value} {x : DataW H × List MemPlace}

theorem cell_of_eight (ht : P.underlying t = some (.array 8 e)) (he : P.underlying e = some (.int .i32)) (hce : P.cellsOf e = 1) (h : DataW.trod enc P w base spare held fuel t cs = some x) (i : Nat) (hi : i < 8) :
    ∃ n, cs[i]? = some (.int .i32 n) ∧ I32 n := by
  obtain ⟨xs, m, _, _, _, hl, hf⟩ := DataW.trod_array ht h
  have h1 := hf i hi
  rw [hce, List.getElem?_eq_getElem (by omega)] at h1
  obtain ⟨n, e1, _, hw⟩ := DataW.trod_int he h1
  refine ⟨n, ?_, I32.of_wf hw⟩
  have h2 : ((cs.drop (i * 1)).take 1)[0]? = some (.int .i32 n) := by rw [e1]; rfl
  simpa using h2

theorem eight (ht : P.underlying t = some (.array 8 e)) (he : P.underlying e = some (.int .i32)) (hce : P.cellsOf e = 1) (hlen : cs.length = 8) (h : DataW.trod enc P w base spare held fuel t cs = some x) :
    ∃ f : P8, f.ok ∧ cs = f.arr.toList := by
  obtain ⟨n0, c0, b0⟩ := cell_of_eight ht he hce h 0 (by omega)
  obtain ⟨n1, c1, b1⟩ := cell_of_eight ht he hce h 1 (by omega)
  obtain ⟨n2, c2, b2⟩ := cell_of_eight ht he hce h 2 (by omega)
  obtain ⟨n3, c3, b3⟩ := cell_of_eight ht he hce h 3 (by omega)
  obtain ⟨n4, c4, b4⟩ := cell_of_eight ht he hce h 4 (by omega)
  obtain ⟨n5, c5, b5⟩ := cell_of_eight ht he hce h 5 (by omega)
  obtain ⟨n6, c6, b6⟩ := cell_of_eight ht he hce h 6 (by omega)
  obtain ⟨n7, c7, b7⟩ := cell_of_eight ht he hce h 7 (by omega)
  refine ⟨⟨n0, n1, n2, n3, n4, n5, n6, n7⟩, ⟨b0, b1, b2, b3, b4, b5, b6, b7⟩, ?_⟩
  match cs, hlen with
  | [d0, d1, d2, d3, d4, d5, d6, d7], _ =>
    simp at c0 c1 c2 c3 c4 c5 c6 c7
    subst c0 c1 c2 c3 c4 c5 c6 c7
    rfl
end

end Go.Proofs.Qxb6601738a
