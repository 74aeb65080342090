/-
  FROM WHAT THE ROW's READER GIVES OF A SLICE TO WHAT THE WALKS ASK.
-/
import Derived.Test.Qxb6000727aSmall
import Derived.ProofKit
import Derived.OpenShut
set_option linter.unusedSimpArgs false
set_option linter.unusedVariables false
namespace Go.Proofs.Qxb6000727a
open Go.RowKit

/-- A slice of integers that came in: nil, or a row of cells. -/
def RowIn (k : IntKind) (w : World) (a : Option Addr) (len cap : Nat) (zs : List Int) : Prop :=
  (a = none ∧ len = 0 ∧ cap = 0 ∧ zs = []) ∨
  ∃ x, a = some x ∧ len ≤ cap ∧ cap ≤ maxLen ∧ zs.length = cap ∧ (∀ i, i < zs.length → w.cell? (x.add i) = some (.int k (zs.getD i 0))) ∧ ∀ n ∈ zs, (Lit.int k n).wf = true

theorem at_add {w : World} {a : Addr} {v : Value} (h : w.cell? a = some v) (i : Nat) : a.add i = ⟨a.block, a.off + i, none⟩ := by
  have hs : a.spot = none := by
    unfold World.cell? at h
    split at h
    · split at h
      · cases h
      · rename_i q; simpa using q
    · cases h
  unfold Addr.add
  split
  · rename_i e; subst e; cases a; simp at hs; subst hs; rfl
  · rfl

theorem rowV_of {w : World} {a : Addr} {n : Nat} {f : Nat → Value} (h : ∀ i, i < n → w.cell? (a.add i) = some (f i)) : RowV w (some a) n f := by
  intro hn
  have h0 := h 0 hn
  have e0 : a.add 0 = a := by simp [Addr.add]
  rw [e0] at h0
  have hs := at_add h0
  refine ⟨a.block, a.off, ?_, fun i hi => by rw [← hs i]; exact h i hi⟩
  have := hs 0
  rw [e0] at this
  rw [this]

theorem RowIn.open {k : IntKind} {w : World} {a : Option Addr} {len cap : Nat} {zs : List Int} (h : RowIn k w a len cap zs) :
    ∃ ys : List Int, RowV w a len (fun i => .int k (ys.getD i 0)) ∧ (a = none → len = 0 ∧ cap = 0) ∧ len ≤ maxLen ∧ ys.length = len ∧ ∀ y ∈ ys, (Lit.int k y).wf = true := by
  rcases h with ⟨rfl, rfl, rfl, rfl⟩ | ⟨x, rfl, hl, hm, hz, hc, hw⟩
  · exact ⟨[], fun h => absurd h (Nat.lt_irrefl _), fun _ => ⟨rfl, rfl⟩, by decide, rfl, by simp⟩
  · refine ⟨zs.take len, rowV_of (fun i hi => ?_), (fun h => by cases h), Nat.le_trans hl hm, by simp; omega, fun y hy => hw y (List.mem_of_mem_take hy)⟩
    rw [hc i (by omega)]
    have : i < zs.length := by omega
    simp [List.getD, hi, this]

theorem all_u8 {ys : List Int} (h : ∀ y ∈ ys, (Lit.int .u8 y).wf = true) (i : Nat) : 0 ≤ ys.getD i 0 ∧ ys.getD i 0 ≤ 255 := by
  by_cases hi : i < ys.length
  · have hw := h _ (List.getElem_mem hi)
    simp only [List.getD, List.getElem?_eq_getElem hi, Option.getD_some]
    exact bounds_u8 hw
  · simp [List.getD, List.getElem?_eq_none (by omega : ys.length ≤ i)]
theorem all_u16 {ys : List Int} (h : ∀ y ∈ ys, (Lit.int .u16 y).wf = true) (i : Nat) : 0 ≤ ys.getD i 0 ∧ ys.getD i 0 ≤ 65535 := by
  by_cases hi : i < ys.length
  · have hw := h _ (List.getElem_mem hi)
    simp only [List.getD, List.getElem?_eq_getElem hi, Option.getD_some]
    exact bounds_u16 hw
  · simp [List.getD, List.getElem?_eq_none (by omega : ys.length ≤ i)]

end Go.Proofs.Qxb6000727a
