/-
  FROM WHAT THE ROW's READER GIVES OF A SLICE TO WHAT THE WALKS ASK.
-/
import Derived.Test.Qxb6000035aCopies
import Derived.ProofKit
import Derived.OpenShut
set_option linter.unusedSimpArgs false
set_option linter.unusedVariables false
namespace Go.Proofs.Qxb6000035a
open Go.RowKit

theorem at_add {w : World} {a : Addr} {v : Value} (h : w.cell? a = some v) (i : Nat) : a.add i = ⟨a.block, a.off + i, none⟩ := by
  have hs : a.spot = none := by
    unfold World.cell? at h
    split at h
    · split at h
      · cases h
      · rename_i q; simpa using q
    · cases h
  unfold Addr.add
  split
  · rename_i e; subst e; cases a; simp at hs; subst hs; rfl
  · rfl

theorem rowV_of {w : World} {a : Addr} {n : Nat} {f : Nat → Value} (h : ∀ i, i < n → w.cell? (a.add i) = some (f i)) : RowV w (some a) n f := by
  intro hn
  have h0 := h 0 hn
  have e0 : a.add 0 = a := by simp [Addr.add]
  rw [e0] at h0
  have hs := at_add h0
  refine ⟨a.block, a.off, ?_, fun i hi => by rw [← hs i]; exact h i hi⟩
  have := hs 0
  rw [e0] at this
  rw [this]

theorem strRow {W : World} {x : Addr} {l c : Nat} {zs : List ByteArray} (hl : l ≤ c) (hm : c ≤ maxLen) (hz : zs.length = c) (hcell : ∀ i, i < zs.length → W.cell? (x.add i) = some (.string (zs.getD i ByteArray.empty))) (hwz : ∀ s ∈ zs, s.size ≤ maxLen) :
    ∃ ys : List ByteArray, RowV W (some x) l (strAt ys) ∧ (some x = none → l = 0 ∧ c = 0) ∧ l ≤ maxLen ∧ ys.length = l ∧ ∀ y ∈ ys, y.size ≤ maxLen := by
  refine ⟨zs.take l, rowV_of (fun i hi => ?_), (fun h => by cases h), Nat.le_trans hl hm, by simp; omega, fun y hy => hwz y (List.mem_of_mem_take hy)⟩
  rw [hcell i (by omega)]
  have : i < zs.length := by omega
  simp [strAt, List.getD, hi, this]

theorem boolRow' {W : World} {x : Addr} {l c : Nat} {B : Nat → Bool} (hl : l ≤ c) (hm : c ≤ maxLen) (hcell : ∀ i, i < c → W.cell? (x.add i) = some (.bool (B i))) :
    ∃ ys : List Bool, RowV W (some x) l (boolAt ys) ∧ (some x = none → l = 0 ∧ c = 0) ∧ l ≤ maxLen := by
  refine ⟨(List.range l).map B, rowV_of (fun i hi => ?_), (fun h => by cases h), Nat.le_trans hl hm⟩
  rw [hcell i (by omega)]
  simp [boolAt, List.getD, hi]

theorem u16Row {W : World} {x : Addr} {l c : Nat} {zs : List Int} (hl : l ≤ c) (hm : c ≤ maxLen) (hz : zs.length = c) (hcell : ∀ i, i < zs.length → W.cell? (x.add i) = some (.int .u16 (zs.getD i 0))) (hwz : ∀ n ∈ zs, (Lit.int .u16 n).wf = true) :
    ∃ ys : List Int, RowV W (some x) l (u16At ys) ∧ (some x = none → l = 0 ∧ c = 0) ∧ l ≤ maxLen ∧ ∀ i, 0 ≤ ys.getD i 0 ∧ ys.getD i 0 ≤ 65535 := by
  refine ⟨zs.take l, rowV_of (fun i hi => ?_), (fun h => by cases h), Nat.le_trans hl hm, fun i => ?_⟩
  · rw [hcell i (by omega)]
    have : i < zs.length := by omega
    simp [u16At, List.getD, hi, this]
  · by_cases hi : i < (zs.take l).length
    · have hm := List.mem_of_mem_take (List.getElem_mem hi)
      have hw := hwz _ hm
      simp only [List.getD, List.getElem?_eq_getElem hi, Option.getD_some]
      exact bounds_u16 hw
    · simp [List.getD, List.getElem?_eq_none (by omega : (zs.take l).length ≤ i)]

end Go.Proofs.Qxb6000035a
