/-
  THE PIECES: the plain list; zzLastAtOrBefore (13), zzModel (25).
-/
import Derived.Test.Qxb6000727aKeys
set_option linter.unusedSimpArgs false
set_option linter.unusedVariables false
namespace Go.Proofs.Qxb6000727a
open Go.RowKit

structure Pc where
  lo : Int
  hi : Int
  seq : Int

def pc0 : Pc := ⟨0, 0, 0⟩
abbrev lo (ps : List Pc) (i : Nat) : Int := (ps.getD i pc0).lo
abbrev hi (ps : List Pc) (i : Nat) : Int := (ps.getD i pc0).hi
abbrev sq (ps : List Pc) (i : Nat) : Int := (ps.getD i pc0).seq

/-- Disjoint pieces, in rising order. -/
structure Good (ps : List Pc) : Prop where
  pos : ∀ i, i < ps.length → 0 ≤ lo ps i ∧ lo ps i < hi ps i ∧ hi ps i ≤ 2000000
  asc : ∀ i j, i < j → j < ps.length → hi ps i ≤ lo ps j

/-- How many pieces start at or before q. -/
def cut (ps : List Pc) (q : Int) : Nat := (ps.takeWhile fun p => decide (p.lo ≤ q)).length

theorem cut_le (ps : List Pc) (q : Int) : cut ps q ≤ ps.length := (List.takeWhile_sublist _).length_le

theorem cut_iff (ps : List Pc) (h : Good ps) (q : Int) (i : Nat) (hi' : i < ps.length) : lo ps i ≤ q ↔ i < cut ps q := by
  have key : ∀ (l : List Pc), (∀ i j, i < j → j < l.length → lo l i ≤ lo l j) → ∀ i, i < l.length → (lo l i ≤ q ↔ i < (l.takeWhile fun p => decide (p.lo ≤ q)).length) := by
    intro l
    induction l with
    | nil => intro _ i hi; simp at hi
    | cons a l ih =>
      intro hm i hil
      by_cases ha : a.lo ≤ q
      · rw [List.takeWhile_cons_of_pos (by simpa using ha)]
        cases i with
        | zero => simp [lo, ha]
        | succ i =>
          have := ih (fun i j hij hj => by simpa [lo] using hm (i + 1) (j + 1) (by omega) (by simpa using hj)) i (by simpa using hil)
          simp only [lo, List.getD_cons_succ, List.length_cons] at this ⊢
          omega
      · rw [List.takeWhile_cons_of_neg (by simpa using ha)]
        simp only [List.length_nil, Nat.not_lt_zero, iff_false]
        cases i with
        | zero => simpa [lo] using ha
        | succ i =>
          have h1 := hm 0 (i + 1) (by omega) hil
          simp only [lo, List.getD_cons_zero] at h1 ⊢
          omega
  exact key ps (fun i j hij hj => by
    have h1 := h.asc i j hij hj
    have h2 := h.pos i (by omega)
    omega) i hi'

/-- The deletion of q. -/
def ans (ps : List Pc) (q : Int) : Int := if 0 < cut ps q ∧ q < hi ps (cut ps q - 1) then sq ps (cut ps q - 1) else 0

/-- A piece that holds q is the last that starts at or before q. -/
theorem holds_cut (ps : List Pc) (h : Good ps) (q : Int) (i : Nat) (hil : i < ps.length) (h1 : lo ps i ≤ q) (h2 : q < hi ps i) : i + 1 = cut ps q := by
  have hc := (cut_iff ps h q i hil).1 h1
  have hle := cut_le ps q
  rcases Nat.lt_or_ge (i + 1) (cut ps q) with g | g
  · have h3 := (cut_iff ps h q (i + 1) (by omega)).2 g
    have h4 := h.asc i (i + 1) (by omega) (by omega)
    omega
  · omega

/-- The pieces in memory: three cells each. -/
def PsIn (w : World) (a : Option Addr) (n : Nat) (ps : List Pc) : Prop :=
  ps.length = n ∧ (0 < n → ∃ b off, a = some ⟨b, off, none⟩ ∧ ∀ i, i < n →
    w.cell? ⟨b, off + i * 3, none⟩ = some (.int .u32 (lo ps i)) ∧ w.cell? ⟨b, off + i * 3 + 1, none⟩ = some (.int .u32 (hi ps i)) ∧ w.cell? ⟨b, off + i * 3 + 2, none⟩ = some (.int .u64 (sq ps i)))

theorem PsIn.below {w w' : World} {a : Option Addr} {n : Nat} {ps : List Pc} (h : PsIn w a n ps) (hb : Below w.heap.size w w') : PsIn w' a n ps := by
  refine ⟨h.1, fun hn => ?_⟩
  obtain ⟨b, off, ha, hc⟩ := h.2 hn
  refine ⟨b, off, ha, fun i hi => ?_⟩
  have hlt : b < w.heap.size := World.block_lt_of_cell? w _ (hc i hi).1
  rw [hb.cell (by exact hlt), hb.cell (by exact hlt), hb.cell (by exact hlt)]
  exact hc i hi

theorem last_any {w : World} {a : Option Addr} {n c : Nat} {ps : List Pc} (h : PsIn w a n ps) (hg : Good ps) (q : Int) (hn : n ≤ 100000) :
    Calls Try.prog 13 #[.slice a n c, .int .u32 q] w fun e w' => e = .returned (.int .i64 ((cut ps q : Int) - 1)) ∧ w' = w := by
  have HL := hide h.1
  have HP := hide h.2
  have hcl := cut_le ps q
  rw [HL.out] at hcl
  have HC := hide (cut_iff ps hg q)
  generalize cut ps q = m at hcl HC
  clear h hg
  go_enter Try.func13, Try.ntmps13
  go_wp2
  go_loop [5, 6] (fun x i => ∃ k : Nat, k ≤ n ∧ i = .int .i64 k ∧ x = .int .i64 ((min k m : Nat) - 1 : Int)) (fun _ i => n - (intOf i).toNat)
  case atStart => exact ⟨0, Nat.zero_le _, rfl, by simp⟩
  case round =>
    obtain ⟨k, hk, rfl, rfl⟩ := hrel
    by_cases hlt : k < n
    · obtain ⟨b, off, rfl, hc⟩ := HP.out (by omega)
      obtain ⟨hc1, _, _⟩ := hc k hlt
      have hiff := HC.out k (by rw [HL.out]; exact hlt)
      generalize lo ps k = l at hc1 hiff
      clear hc
      by_cases hkm : k < m
      · have hl := hiff.2 hkm
        clear hiff
        go_wp2
        go_round
        case rel => exact ⟨k + 1, by omega, by go_num, by congr 1; omega⟩
        case measure => simp [intOf]; omega
      · have hl : ¬ l ≤ q := fun e => hkm (hiff.1 e)
        clear hiff
        go_wp2
        go_round
        case rel => exact ⟨k + 1, by omega, by go_num, by congr 1; omega⟩
        case measure => simp [intOf]; omega
    · have hkn : min k m = m := by omega
      rw [hkn]
      go_wp2
      go_ret
      exact ⟨rfl, rfl⟩

theorem model_any {w : World} {a : Option Addr} {n c : Nat} {ps : List Pc} (h : PsIn w a n ps) (hg : Good ps) (q : Int) (hn : n ≤ 100000) :
    Calls Try.prog 25 #[.slice a n c, .int .u32 q] w fun e w' => e = .returned (.int .u64 (ans ps q)) ∧ w' = w := by
  have HL := hide h.1
  have HP := hide h.2
  have HG := hide hg
  obtain ⟨A, hA⟩ : ∃ A, A = ans ps q := ⟨_, rfl⟩
  rw [← hA]
  have HA := hide hA
  clear h hg hA
  go_enter Try.func25, Try.ntmps25
  go_wp2
  go_loop [5] (fun i => ∃ k : Nat, k ≤ n ∧ i = .int .i64 k ∧ Hid (∀ j, j < k → ¬ (lo ps j ≤ q ∧ q < hi ps j))) (fun i => n - (intOf i).toNat)
  case atStart => exact ⟨0, Nat.zero_le _, rfl, fun j hj => by omega⟩
  case round =>
    obtain ⟨k, hk, rfl, hno⟩ := hrel
    by_cases hlt : k < n
    · obtain ⟨b, off, rfl, hc⟩ := HP.out (by omega)
      obtain ⟨hc1, hc2, hc3⟩ := hc k hlt
      have hkl : k < ps.length := by rw [HL.out]; exact hlt
      have hyes : Hid (lo ps k ≤ q → q < hi ps k → A = sq ps k) := by
        intro h1 h2
        have := holds_cut ps HG.out q k hkl h1 h2
        rw [HA.out]
        unfold ans
        rw [← this]
        rw [if_pos ⟨by omega, by simpa using h2⟩]
        simp
      have hnext : Hid (¬ (lo ps k ≤ q ∧ q < hi ps k) → ∀ j, j < k + 1 → ¬ (lo ps j ≤ q ∧ q < hi ps j)) := by
        intro hh j hj
        by_cases e : j = k
        · subst e; exact hh
        · exact hno j (by omega)
      generalize lo ps k = l at hc1 hyes hnext
      generalize hi ps k = u at hc2 hyes hnext
      generalize sq ps k = s at hc3 hyes
      clear hc
      by_cases h1 : l ≤ q
      · by_cases h2 : q < u
        · have he := hyes.out h1 h2
          have HE := hide he
          clear he
          go_wp2
          go_ret
          exact ⟨by rw [HE.out]; rfl, rfl⟩
        · have hn2 := hide (hnext.out (fun x => h2 x.2))
          go_wp2
          go_round
          case rel => exact ⟨k + 1, by omega, by go_num, hn2.out⟩
          case measure => simp [intOf]; omega
      · have hn2 := hide (hnext.out (fun x => h1 x.1))
        go_wp2
        go_round
        case rel => exact ⟨k + 1, by omega, by go_num, hn2.out⟩
        case measure => simp [intOf]; omega
    · have hz : A = 0 := by
        rw [HA.out]
        unfold ans
        split
        · rename_i hc
          have hle := cut_le ps q
          have h1 := (cut_iff ps HG.out q (cut ps q - 1) (by omega)).2 (by omega)
          have hlen := HL.out
          exact absurd ⟨h1, hc.2⟩ (hno (cut ps q - 1) (by omega))
        · rfl
      have HZ := hide hz
      clear hz
      go_wp2
      go_ret
      exact ⟨by rw [HZ.out]; rfl, rfl⟩

end Go.Proofs.Qxb6000727a
