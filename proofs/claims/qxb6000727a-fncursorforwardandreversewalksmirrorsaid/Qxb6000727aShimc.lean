/-
  THE SHIM, THIRD PART: zzSameBytes (29), zzLess (19), the readers (20, 30, 31), zzIs (15), seek (16), pop (17).
-/
import Derived.Test.Qxb6000727aShimb
set_option linter.unusedSimpArgs false
set_option linter.unusedVariables false
namespace Go.Proofs.Qxb6000727a
open Go.RowKit

set_option maxHeartbeats 1000000 in
theorem same_any {w : World} {a b : Option Addr} {n c d : Nat} {xs : List Int} (h1 : KeyIn w a n xs) (h2 : KeyIn w b n xs) (hn : n ≤ 100) :
    Calls Try.prog 29 #[.slice a n c, .slice b n d] w fun e w' => e = .returned (.bool true) ∧ Same w w' := by
  have H1 := hide h1
  have H2 := hide h2
  clear h1 h2
  go_enter Try.func29, Try.ntmps29
  go_wp2
  go_loopg [5] n (fun k x wr => ∃ j : Nat, j ≤ n ∧ n - j ≤ k ∧ x = .int .i64 j ∧ Same w wr)
  case atStart => exact ⟨0, by omega, by omega, rfl, Same.refl _⟩
  case round =>
    obtain ⟨j, hj, hk, rfl, hs⟩ := hrel
    have HS := hide hs
    clear hs
    by_cases hlt : j < n
    · obtain ⟨b1, o1, rfl, hc1⟩ := H1.out.row (by omega)
      obtain ⟨b2, o2, rfl, hc2⟩ := H2.out.row (by omega)
      have k1 : wr.cell? ⟨b1, o1 + j, none⟩ = some (.int .u8 (xs.getD j 0)) := (HS.out.cell _).trans (hc1 j hlt)
      have k2 : wr.cell? ⟨b2, o2 + j, none⟩ = some (.int .u8 (xs.getD j 0)) := (HS.out.cell _).trans (hc2 j hlt)
      generalize xs.getD j 0 = x at k1 k2
      clear hc1 hc2
      go_wp2
      go_quiet (fail)
      go_wp2
      go_roundg (n - (j + 1))
      case measure => omega
      case rel => exact ⟨j + 1, by omega, by omega, by go_num, HS.out.drewN _⟩
    · have hjn : j = n := by omega
      go_wp2
      go_ret
      exact ⟨rfl, HS.out⟩

/-- The order of two lists, from a place up to which they agree. -/
theorem cmp_drop : ∀ (xs ys : List Int) (j : Nat), cmpL (xs.drop j) (ys.drop j) < 0 → j < ys.length ∧ (j < xs.length → (xs.getD j 0 < ys.getD j 0 ∨ (xs.getD j 0 = ys.getD j 0 ∧ cmpL (xs.drop (j + 1)) (ys.drop (j + 1)) < 0)))
  | [], [], j, h => by simp [cmpL] at h
  | [], y :: ys, 0, h => by simp
  | [], y :: ys, j + 1, h => by
    have := cmp_drop [] ys j (by simpa using h)
    simp at this ⊢
    exact this
  | x :: xs, [], j, h => by
    cases j with
    | zero => simp [cmpL] at h
    | succ j =>
      have := cmp_drop xs [] j (by simpa using h)
      simp at this
  | x :: xs, y :: ys, 0, h => by
    simp only [List.drop_zero, cmpL] at h
    refine ⟨by simp, fun _ => ?_⟩
    simp only [List.getD_cons_zero, List.drop_succ_cons, List.drop_zero]
    split at h
    · left; assumption
    · split at h
      · omega
      · right; exact ⟨by omega, h⟩
  | x :: xs, y :: ys, j + 1, h => by
    have := cmp_drop xs ys j (by simpa using h)
    simpa using this

set_option maxHeartbeats 1000000 in
theorem less_any {w : World} {a b : Option Addr} {n m c d : Nat} {xs ys : List Int} (h1 : KeyIn w a n xs) (h2 : KeyIn w b m ys) (hn : n ≤ 100) (hm : m ≤ 100) (hlt : cmpL xs ys < 0) :
    Calls Try.prog 19 #[.slice a n c, .slice b m d] w fun e w' => e = .returned (.bool true) ∧ Same w w' := by
  have H1 := hide h1
  have H2 := hide h2
  have HL := hide hlt
  clear h1 h2 hlt
  go_enter Try.func19, Try.ntmps19
  go_wp2
  go_loopg [5] n (fun k x wr => ∃ j : Nat, j ≤ n ∧ n - j ≤ k ∧ x = .int .i64 j ∧ cmpL (xs.drop j) (ys.drop j) < 0 ∧ Same w wr)
  case atStart => exact ⟨0, by omega, by omega, rfl, by simpa using HL.out, Same.refl _⟩
  case round =>
    obtain ⟨j, hj, hk, rfl, hd, hs⟩ := hrel
    have HS := hide hs
    obtain ⟨hjm, hstep⟩ := cmp_drop xs ys j hd
    rw [H2.out.len] at hjm
    rw [H1.out.len] at hstep
    have HSTEP := hide hstep
    clear hs hd hstep
    by_cases hlt : j < n
    · obtain ⟨b1, o1, rfl, hc1⟩ := H1.out.row (by omega)
      obtain ⟨b2, o2, rfl, hc2⟩ := H2.out.row (by omega)
      have k1 : wr.cell? ⟨b1, o1 + j, none⟩ = some (.int .u8 (xs.getD j 0)) := (HS.out.cell _).trans (hc1 j hlt)
      have k2 : wr.cell? ⟨b2, o2 + j, none⟩ = some (.int .u8 (ys.getD j 0)) := (HS.out.cell _).trans (hc2 j hjm)
      rcases HSTEP.out hlt with hl | ⟨he, hn2⟩
      · generalize xs.getD j 0 = x at k1 hl
        generalize ys.getD j 0 = y at k2 hl
        clear hc1 hc2 HSTEP
        have hne : (x == y) = false := by simp; omega
        go_wp2
        go_quiet (fail)
        go_wp2
        go_quiet (fail)
        go_wp2
        go_ret
        exact ⟨rfl, (HS.out.drewN _).drewN _⟩
      · rw [← he] at k2
        have HN := hide hn2
        generalize xs.getD j 0 = x at k1 k2
        clear hc1 hc2 HSTEP hn2 he
        go_wp2
        go_quiet (fail)
        go_wp2
        go_roundg (n - (j + 1))
        case measure => omega
        case rel => exact ⟨j + 1, by omega, by omega, by go_num, HN.out, HS.out.drewN _⟩
    · have hjn : j = n := by omega
      subst hjn
      clear HSTEP
      go_wp2
      go_ret
      exact ⟨rfl, HS.out⟩

/-! ### the readers of a piece -/
section
variable {w0 w : World} {ps : List Pc} {sh : Int} {D : TB} {i : Nat} {L R : Option Nat}
theorem start_any (h : Frag w ps D i L R) : Calls Try.prog 20 #[.pointer (some ⟨D.blk i, 0, none⟩)] w fun e w' => e = .returned (.slice (some ⟨D.sb i, 0, none⟩) (enc (lo ps i)).length (enc (lo ps i)).length) ∧ w' = w := by
  have n0 : w.cell? ⟨D.blk i, 0, none⟩ = some (.slice (some ⟨D.sb i, 0, none⟩) (enc (lo ps i)).length (enc (lo ps i)).length) := h.node.cell 0
  clear h
  go_enter Try.func20, Try.ntmps20
  go_wp2
  go_ret
  exact ⟨rfl, rfl⟩
theorem end_any (h : Frag w ps D i L R) : Calls Try.prog 30 #[.pointer (some ⟨D.blk i, 0, none⟩)] w fun e w' => e = .returned (.slice (some ⟨D.eb i, 0, none⟩) (enc (hi ps i)).length (enc (hi ps i)).length) ∧ w' = w := by
  have n0 : w.cell? ⟨D.blk i, 1, none⟩ = some (.slice (some ⟨D.eb i, 0, none⟩) (enc (hi ps i)).length (enc (hi ps i)).length) := h.node.cell 1
  clear h
  go_enter Try.func30, Try.ntmps30
  go_wp2
  go_ret
  exact ⟨rfl, rfl⟩
theorem seq_any (h : Frag w ps D i L R) : Calls Try.prog 31 #[.pointer (some ⟨D.blk i, 0, none⟩)] w fun e w' => e = .returned (.int .u64 (sq ps i)) ∧ w' = w := by
  have n0 : w.cell? ⟨D.blk i, 2, none⟩ = some (.int .u64 (sq ps i)) := h.node.cell 2
  clear h
  go_enter Try.func31, Try.ntmps31
  go_wp2
  go_ret
  exact ⟨rfl, rfl⟩
end

end Go.Proofs.Qxb6000727a
