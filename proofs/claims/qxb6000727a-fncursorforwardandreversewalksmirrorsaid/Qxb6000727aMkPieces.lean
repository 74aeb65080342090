/-
  zzPieces (10): the pieces out of the inputs, and that they are disjoint and rise.
-/
import Derived.Test.Qxb6000727aSmall
set_option linter.unusedSimpArgs false
set_option linter.unusedVariables false
namespace Go.Proofs.Qxb6000727a
open Go.RowKit

def bnd (st : List Int) : Nat → Int
  | 0 => st.getD 0 0
  | j + 1 => bnd st j + st.getD (j + 1) 0 + 1
def pcs (st sqs : List Int) : Nat → List Pc
  | 0 => []
  | j + 1 => if sqs.getD j 0 = 0 then pcs st sqs j else pcs st sqs j ++ [⟨bnd st j, bnd st (j + 1), sqs.getD j 0⟩]

theorem bnd_bd (st : List Int) (h : ∀ i, 0 ≤ st.getD i 0 ∧ st.getD i 0 ≤ 255) : ∀ k, 0 ≤ bnd st k ∧ bnd st k ≤ 256 * k + 255
  | 0 => by have := h 0; simp only [bnd]; omega
  | k + 1 => by
    have h1 := bnd_bd st h k
    have h2 := h (k + 1)
    simp only [bnd]
    omega

theorem pcs_len (st sqs : List Int) : ∀ k, (pcs st sqs k).length ≤ k
  | 0 => by simp [pcs]
  | k + 1 => by
    have := pcs_len st sqs k
    simp only [pcs]
    split
    · omega
    · simp; omega

theorem pcs_good (st sqs : List Int) (h : ∀ i, 0 ≤ st.getD i 0 ∧ st.getD i 0 ≤ 255) : ∀ k, k ≤ 4096 → Good (pcs st sqs k) ∧ ∀ i, i < (pcs st sqs k).length → hi (pcs st sqs k) i ≤ bnd st k
  | 0, _ => ⟨⟨fun i hi => by simp [pcs] at hi, fun i j _ hj => by simp [pcs] at hj⟩, fun i hi => by simp [pcs] at hi⟩
  | k + 1, hk => by
    obtain ⟨hg, hb⟩ := pcs_good st sqs h k (by omega)
    have h1 := bnd_bd st h k
    have h2 := h (k + 1)
    have hbn : bnd st (k + 1) = bnd st k + st.getD (k + 1) 0 + 1 := rfl
    simp only [pcs]
    split
    · exact ⟨hg, fun i hi => by have := hb i hi; omega⟩
    · have key : ∀ i, i < (pcs st sqs k ++ [Pc.mk (bnd st k) (bnd st (k + 1)) (sqs.getD k 0)]).length →
          (i < (pcs st sqs k).length ∧ (pcs st sqs k ++ [Pc.mk (bnd st k) (bnd st (k + 1)) (sqs.getD k 0)]).getD i pc0 = (pcs st sqs k).getD i pc0) ∨
          (i = (pcs st sqs k).length ∧ (pcs st sqs k ++ [Pc.mk (bnd st k) (bnd st (k + 1)) (sqs.getD k 0)]).getD i pc0 = Pc.mk (bnd st k) (bnd st (k + 1)) (sqs.getD k 0)) := by
        intro i hi
        simp only [List.length_append, List.length_cons, List.length_nil, Nat.zero_add] at hi
        by_cases e : i < (pcs st sqs k).length
        · exact Or.inl ⟨e, by simp [List.getD, List.getElem?_append_left e]⟩
        · have e2 : i = (pcs st sqs k).length := by omega
          exact Or.inr ⟨e2, by simp [List.getD, e2]⟩
      refine ⟨⟨fun i hi' => ?_, fun i j hij hj => ?_⟩, fun i hi' => ?_⟩
      · unfold lo hi
        rcases key i hi' with ⟨e, e2⟩ | ⟨e, e2⟩
        · rw [e2]; exact hg.pos i e
        · rw [e2]; simp only; omega
      · unfold lo hi
        rcases key i (by omega) with ⟨e, e2⟩ | ⟨e, e2⟩
        · rw [e2]
          rcases key j hj with ⟨f, f2⟩ | ⟨f, f2⟩
          · rw [f2]; exact hg.asc i j hij f
          · rw [f2]; exact hb i e
        · rcases key j hj with ⟨f, f2⟩ | ⟨f, f2⟩ <;> omega
      · unfold hi
        rcases key i hi' with ⟨e, e2⟩ | ⟨e, e2⟩
        · rw [e2]
          have h3 : ((pcs st sqs k).getD i pc0).hi ≤ bnd st k := hb i e
          omega
        · rw [e2]; exact Int.le_refl _

/-- The pieces as cells. -/
def cellsP (ps : List Pc) : List Value := ps.flatMap fun p => [.int .u32 p.lo, .int .u32 p.hi, .int .u64 p.seq]
theorem cellsP_len : ∀ ps : List Pc, (cellsP ps).length = ps.length * 3
  | [] => rfl
  | p :: ps => by
    have := cellsP_len ps
    simp only [cellsP, List.flatMap_cons, List.length_append, List.length_cons, List.length_nil] at this ⊢
    omega
theorem cellsP_at : ∀ (ps : List Pc) (i : Nat), i < ps.length →
    (cellsP ps)[i * 3]? = some (.int .u32 (lo ps i)) ∧ (cellsP ps)[i * 3 + 1]? = some (.int .u32 (hi ps i)) ∧ (cellsP ps)[i * 3 + 2]? = some (.int .u64 (sq ps i))
  | p :: ps, 0, _ => by simp [cellsP, lo, hi, sq]
  | p :: ps, i + 1, h => by
    have := cellsP_at ps i (by simpa using h)
    have e : cellsP (p :: ps) = .int .u32 p.lo :: .int .u32 p.hi :: .int .u64 p.seq :: cellsP ps := by simp [cellsP]
    rw [e]
    have e1 : (i + 1) * 3 = i * 3 + 1 + 1 + 1 := by omega
    rw [e1]
    simp only [List.getElem?_cons_succ, lo, hi, sq, List.getD_cons_succ] at this ⊢
    exact this
theorem cellsP_snoc (ps : List Pc) (p : Pc) : cellsP (ps ++ [p]) = cellsP ps ++ [.int .u32 p.lo, .int .u32 p.hi, .int .u64 p.seq] := by simp [cellsP]

theorem Try.info54 : (Try.prog.info? 54).map (fun i => (i.zero, i.size, i.bytes)) = some (some (.agg #[.int .u32 0, .int .u32 0, .int .u64 0]), 3, 16) := by kernel_rfl

/-- n new elements of three cells. -/
def fresh3 (n : Nat) : Array Value := madeCells #[.int .u32 0, .int .u32 0, .int .u64 0] (n * 3)
theorem fresh3_size (n : Nat) : (fresh3 n).size = n * 3 := size_madeCells _ _
theorem run_make3 (n : Nat) (hb : n ≤ 100000) (w : World) :
    (Instr.makeSlice 28 (.int .i64 0) (.int .i64 (n : Int))).run Try.prog w = .ok (.slice (some ⟨w.heap.size, 0, none⟩) 0 n) (w.alloc (.cells (fresh3 n) 54)) := by
  obtain ⟨i, hi, hz, hs, hby⟩ := info_parts Try.info54
  have h := run_make (P := Try.prog) w 28 54 i _ Try.underlying28 hi hz .i64 .i64 0 n (by omega) (by omega) (by rw [hby, ← Int.natCast_mul]; omega) (by omega)
  rw [h]
  simp [fresh3, hs, Value.cells]

theorem cells3_new (w : World) (x y z : Value) (t : TypeId) : ∀ j u, [x, y, z][j]? = some u → (w.alloc (.cells #[x, y, z] t)).cell? ((⟨w.heap.size, 0, none⟩ : Addr).add j) = some u := by
  intro j u hj
  match j, hj with
  | 0, hj => simp at hj; subst hj; simp [Addr.add]
  | 1, hj => simp at hj; subst hj; simp [Addr.add]
  | 2, hj => simp at hj; subst hj; simp [Addr.add]

theorem owns_ps {w : World} {base : Nat} {v : Value} {n : Nat} {ps : List Pc} (h : w.ownsRow base 54 3 v n (cellsP ps)) : ∃ a c, v = .slice a n c ∧ PsIn w a n ps := by
  have hl : ps.length = n := by have := h.1; rw [cellsP_len] at this; omega
  rcases h.2 with ⟨hv, hn⟩ | ⟨g, cap, cur, hv, _⟩
  · subst hn
    exact ⟨none, 0, hv, hl, fun q => absurd q (Nat.lt_irrefl _)⟩
  · refine ⟨_, cap, hv, hl, fun _ => ⟨g, 0, rfl, fun i hi => ?_⟩⟩
    obtain ⟨c0, c1, c2⟩ := cellsP_at ps i (by omega)
    have key : ∀ j u, (cellsP ps)[j]? = some u → w.cell? ⟨g, 0 + j, none⟩ = some u := by
      intro j u hu
      have := h.cells (g := g) (by rw [hv]; rfl) j u hu
      have e : (⟨g, 0, none⟩ : Addr).add j = ⟨g, 0 + j, none⟩ := by unfold Addr.add; split <;> simp_all
      rw [e] at this
      exact this
    exact ⟨key _ _ c0, key _ _ c1, key _ _ c2⟩

/-- What zzPieces leaves. -/
def MadeP (w : World) (ps : List Pc) (e : Ending) (w' : World) : Prop := ∃ a c, e = .returned (.slice a ps.length c) ∧ PsIn w' a ps.length ps ∧ Below w.heap.size w w'
theorem MadeP.nil (w : World) : MadeP w [] (.returned (.slice none 0 0)) w := ⟨none, 0, rfl, ⟨rfl, fun q => absurd q (Nat.lt_irrefl _)⟩, Below.refl _ _⟩
theorem MadeP.mk {w w' : World} {ps : List Pc} {a : Option Addr} {n c : Nat} (e : ps.length = n) (h : PsIn w' a n ps) (hb : Below w.heap.size w w') : MadeP w ps (.returned (.slice a n c)) w' := by
  subst e; exact ⟨a, c, rfl, h, hb⟩

/-- The number of rounds. -/
def rounds (n0 n1 : Nat) : Nat := min (n0 - 1) n1
def allPs (st sqs : List Int) (n0 n1 : Nat) : List Pc := if n0 = 0 then [] else pcs st sqs (rounds n0 n1)

theorem pieces_none (a0 : Option Addr) (c0 : Nat) (a1 : Option Addr) (n1 c1 : Nat) (w : World) : Calls Try.prog 10 #[.slice a0 0 c0, .slice a1 n1 c1] w (MadeP w []) := by
  go_enter Try.func10, Try.ntmps10
  go_wp2
  go_ret
  exact MadeP.nil _

set_option maxHeartbeats 2000000 in
theorem pieces_walk (a0 : Option Addr) (n0 c0 : Nat) (a1 : Option Addr) (n1 c1 : Nat) (st sqs : List Int) (w : World) (r0 : RowV w a0 n0 (u8At st)) (r1 : RowV w a1 n1 (u64At sqs))
    (b0 : n0 ≤ 4096) (b1 : n1 ≤ 4096) (hst : ∀ i, 0 ≤ st.getD i 0 ∧ st.getD i 0 ≤ 255) (hpos : 0 < n0) :
    Calls Try.prog 10 #[.slice a0 n0 c0, .slice a1 n1 c1] w (MadeP w (pcs st sqs (rounds n0 n1))) := by
  obtain ⟨i0, hi, hz0, hz1, hz2⟩ := info_parts Try.info54
  obtain ⟨m, rfl⟩ : ∃ m, n0 = m + 1 := ⟨n0 - 1, by omega⟩
  have hN : rounds (m + 1) n1 ≤ m ∧ rounds (m + 1) n1 ≤ n1 := by unfold rounds; omega
  obtain ⟨b, off, rfl, hc⟩ := r0 hpos
  have hc0 := hc 0 hpos
  unfold u8At at hc0
  rw [Nat.add_zero] at hc0
  have hbl : b < w.heap.size := World.block_lt_of_cell? w _ hc0
  have HC := hide hc
  have R1 := hide r1
  have HST := hide hst
  have h00 := hst 0
  have hbd := hide (bnd_bd st hst)
  have hb0 : st.getD 0 0 = bnd st 0 := rfl
  rw [hb0] at hc0 h00
  clear hc r1 hst r0 hb0
  by_cases hlt : (n1 : Int) < (m : Int)
  · have hR : rounds (m + 1) n1 = n1 := by unfold rounds; omega
    rw [hR]
    rw [hR] at hN
    clear hR
    have hmk := run_make3 n1 (by omega)
    obtain ⟨hz0', hz1'⟩ := h00
    go_enter Try.func10, Try.ntmps10
    go_wp2
    go_loopw [6, 7, 8] (fun v cur j wr => ∃ k : Nat, k ≤ n1 ∧ j = .int .i64 k ∧ cur = .int .u32 (bnd st k) ∧ wr.ownsRow w.heap.size 54 3 v (pcs st sqs k).length (cellsP (pcs st sqs k)) ∧ Below w.heap.size w wr) (fun _ _ j _ => n1 - (intOf j).toNat)
    case atStart =>
      refine ⟨0, Nat.zero_le _, rfl, rfl, ?_, (Below.refl _ _).alloc (Nat.le_refl _) _⟩
      exact World.ownsRow_made w (fresh3 n1) n1 (Nat.le_refl _) (by unfold maxLen; omega) (fresh3_size _)
    case round =>
      obtain ⟨k, hk, rfl, rfl, hown, hbel⟩ := hrel
      clear hmk hc0
      by_cases hkl : k < n1
      · have hck := HC.out (k + 1) (by omega)
        have hlt1 : b < w.heap.size := World.block_lt_of_cell? w _ hck
        have hck2 : wr.cell? ⟨b, off + (k + 1), none⟩ = some (u8At st (k + 1)) := (hbel.cell (by exact hlt1)).trans hck
        obtain ⟨b1', o1', ea, hc1⟩ := R1.out (by omega)
        have hcs := hc1 k (by omega)
        have hcs2 : wr.cell? ⟨b1', o1' + k, none⟩ = some (u64At sqs k) := (hbel.cell (by exact World.block_lt_of_cell? w _ hcs)).trans hcs
        have hpl := pcs_len st sqs k
        obtain ⟨y0, y1⟩ := hbd.out k
        obtain ⟨x0, x1⟩ := HST.out (k + 1)
        have hbn : bnd st (k + 1) = bnd st k + st.getD (k + 1) 0 + 1 := rfl
        have hpc : pcs st sqs (k + 1) = if sqs.getD k 0 = 0 then pcs st sqs k else pcs st sqs k ++ [⟨bnd st k, bnd st (k + 1), sqs.getD k 0⟩] := rfl
        unfold u8At at hck2
        unfold u64At at hcs2
        rw [hbn] at hpc
        generalize st.getD (k + 1) 0 = x at hck2 x0 x1 hbn hpc
        generalize sqs.getD k 0 = s at hcs2 hpc
        generalize bnd st k = y at y0 y1 hbn hpc
        have hy : y ≤ 2000000 := by omega
        have hsz := hbel.size
        have HBN := hide hbn
        have HPC := hide hpc
        have HBL := hide hbel
        clear hbn hpc hbel hck hc1 hcs y1
        subst ea
        by_cases hs : s = 0
        · have ht : (s != 0) = false := by simp [hs]
          have hp2 := HPC.out
          rw [if_pos hs] at hp2
          have HP2 := hide hp2
          have HO := hide hown
          clear hp2 hs hown
          go_wp2
          go_roundw
          case rel => exact ⟨k + 1, by omega, by go_num, by rw [HBN.out], by rw [HP2.out]; exact HO.out, HBL.out⟩
          case measure => simp [intOf]; omega
        · have ht : (s != 0) = true := by simp [bne_iff_ne, hs]
          have hp2 := HPC.out
          rw [if_neg hs] at hp2
          have HP2 := hide hp2
          clear hp2 hs
          go_wp2_with (at_builtin; go_must (refine wpList_append_own _ rfl _ _ 28 rfl w.heap.size 54 i0 (.agg #[.int .u32 0, .int .u32 0, .int .u64 0]) 3 16 Try.underlying28 hi hz0 hz1 hz2 rfl (by decide) _ _ _ rfl (hown.alloc _) ⟨wr.heap.size, 0, none⟩ 1 1 [.int .u32 y, .int .u32 (y + x + 1), .int .u64 s] rfl rfl (cells3_new _ _ _ _ _) (by intro u hu; simp at hu; rcases hu with rfl | rfl | rfl <;> rfl) (by unfold maxLen; omega) (by omega) (by simp; omega) ?_); intro v' w1 hown1 hgrow hnil)
          have hb1 : Below w.heap.size w w1 := (HBL.out.alloc hsz _).grown hgrow (by simp; omega) (fun q hq => (hown.lt q hq).1)
          have HB1 := hide hb1
          have HO1 := hide hown1
          clear hb1 hown1 hgrow hnil hown
          go_wp2
          go_roundw
          case rel =>
            have el : (pcs st sqs (k + 1)).length = (pcs st sqs k).length + 1 := by rw [HP2.out]; simp
            have ec : cellsP (pcs st sqs (k + 1)) = cellsP (pcs st sqs k) ++ [.int .u32 y, .int .u32 (y + x + 1), .int .u64 s] := by rw [HP2.out, cellsP_snoc]
            have ho2 : w1.ownsRow w.heap.size 54 3 v' (pcs st sqs (k + 1)).length (cellsP (pcs st sqs (k + 1))) := by rw [el, ec]; exact HO1.out
            have hb2 : Value.int .u32 (y + x + 1) = .int .u32 (bnd st (k + 1)) := by rw [HBN.out]
            have hk2 : Value.int .i64 ((k : Int) + 1) = .int .i64 ((k + 1 : Nat) : Int) := by go_num
            first
              | exact ⟨k + 1, by omega, hk2, hb2, ho2, HB1.out⟩
              | ((repeat apply Exists.intro); exact ⟨⟨k + 1, by omega, hk2, hb2, ho2, HB1.out⟩, rfl⟩)
          case measure => simp [intOf]; omega
      · have hkn : k = n1 := by omega
        subst hkn
        obtain ⟨a', c', rfl, hps⟩ := owns_ps hown
        have hfin := fun c => hide (MadeP.mk (c := c) rfl hps hbel)
        clear hown hbel hps
        go_wp2
        go_ret
        exact (hfin _).out
  · have hR : rounds (m + 1) n1 = m := by unfold rounds; omega
    rw [hR]
    rw [hR] at hN
    clear hR
    have hmk := run_make3 m (by omega)
    obtain ⟨hz0', hz1'⟩ := h00
    go_enter Try.func10, Try.ntmps10
    go_wp2
    go_loopw [6, 7, 8] (fun v cur j wr => ∃ k : Nat, k ≤ m ∧ j = .int .i64 k ∧ cur = .int .u32 (bnd st k) ∧ wr.ownsRow w.heap.size 54 3 v (pcs st sqs k).length (cellsP (pcs st sqs k)) ∧ Below w.heap.size w wr) (fun _ _ j _ => m - (intOf j).toNat)
    case atStart =>
      refine ⟨0, Nat.zero_le _, rfl, rfl, ?_, (Below.refl _ _).alloc (Nat.le_refl _) _⟩
      exact World.ownsRow_made w (fresh3 m) m (Nat.le_refl _) (by unfold maxLen; omega) (fresh3_size _)
    case round =>
      obtain ⟨k, hk, rfl, rfl, hown, hbel⟩ := hrel
      clear hmk hc0
      by_cases hkl : k < m
      · have hck := HC.out (k + 1) (by omega)
        have hlt1 : b < w.heap.size := World.block_lt_of_cell? w _ hck
        have hck2 : wr.cell? ⟨b, off + (k + 1), none⟩ = some (u8At st (k + 1)) := (hbel.cell (by exact hlt1)).trans hck
        obtain ⟨b1', o1', ea, hc1⟩ := R1.out (by omega)
        have hcs := hc1 k (by omega)
        have hcs2 : wr.cell? ⟨b1', o1' + k, none⟩ = some (u64At sqs k) := (hbel.cell (by exact World.block_lt_of_cell? w _ hcs)).trans hcs
        have hpl := pcs_len st sqs k
        obtain ⟨y0, y1⟩ := hbd.out k
        obtain ⟨x0, x1⟩ := HST.out (k + 1)
        have hbn : bnd st (k + 1) = bnd st k + st.getD (k + 1) 0 + 1 := rfl
        have hpc : pcs st sqs (k + 1) = if sqs.getD k 0 = 0 then pcs st sqs k else pcs st sqs k ++ [⟨bnd st k, bnd st (k + 1), sqs.getD k 0⟩] := rfl
        unfold u8At at hck2
        unfold u64At at hcs2
        rw [hbn] at hpc
        generalize st.getD (k + 1) 0 = x at hck2 x0 x1 hbn hpc
        generalize sqs.getD k 0 = s at hcs2 hpc
        generalize bnd st k = y at y0 y1 hbn hpc
        have hy : y ≤ 2000000 := by omega
        have hsz := hbel.size
        have HBN := hide hbn
        have HPC := hide hpc
        have HBL := hide hbel
        clear hbn hpc hbel hck hc1 hcs y1
        subst ea
        by_cases hs : s = 0
        · have ht : (s != 0) = false := by simp [hs]
          have hp2 := HPC.out
          rw [if_pos hs] at hp2
          have HP2 := hide hp2
          have HO := hide hown
          clear hp2 hs hown
          go_wp2
          go_roundw
          case rel => exact ⟨k + 1, by omega, by go_num, by rw [HBN.out], by rw [HP2.out]; exact HO.out, HBL.out⟩
          case measure => simp [intOf]; omega
        · have ht : (s != 0) = true := by simp [bne_iff_ne, hs]
          have hp2 := HPC.out
          rw [if_neg hs] at hp2
          have HP2 := hide hp2
          clear hp2 hs
          go_wp2_with (at_builtin; go_must (refine wpList_append_own _ rfl _ _ 28 rfl w.heap.size 54 i0 (.agg #[.int .u32 0, .int .u32 0, .int .u64 0]) 3 16 Try.underlying28 hi hz0 hz1 hz2 rfl (by decide) _ _ _ rfl (hown.alloc _) ⟨wr.heap.size, 0, none⟩ 1 1 [.int .u32 y, .int .u32 (y + x + 1), .int .u64 s] rfl rfl (cells3_new _ _ _ _ _) (by intro u hu; simp at hu; rcases hu with rfl | rfl | rfl <;> rfl) (by unfold maxLen; omega) (by omega) (by simp; omega) ?_); intro v' w1 hown1 hgrow hnil)
          have hb1 : Below w.heap.size w w1 := (HBL.out.alloc hsz _).grown hgrow (by simp; omega) (fun q hq => (hown.lt q hq).1)
          have HB1 := hide hb1
          have HO1 := hide hown1
          clear hb1 hown1 hgrow hnil hown
          go_wp2
          go_roundw
          case rel =>
            have el : (pcs st sqs (k + 1)).length = (pcs st sqs k).length + 1 := by rw [HP2.out]; simp
            have ec : cellsP (pcs st sqs (k + 1)) = cellsP (pcs st sqs k) ++ [.int .u32 y, .int .u32 (y + x + 1), .int .u64 s] := by rw [HP2.out, cellsP_snoc]
            have ho2 : w1.ownsRow w.heap.size 54 3 v' (pcs st sqs (k + 1)).length (cellsP (pcs st sqs (k + 1))) := by rw [el, ec]; exact HO1.out
            have hb2 : Value.int .u32 (y + x + 1) = .int .u32 (bnd st (k + 1)) := by rw [HBN.out]
            have hk2 : Value.int .i64 ((k : Int) + 1) = .int .i64 ((k + 1 : Nat) : Int) := by go_num
            first
              | exact ⟨k + 1, by omega, hk2, hb2, ho2, HB1.out⟩
              | ((repeat apply Exists.intro); exact ⟨⟨k + 1, by omega, hk2, hb2, ho2, HB1.out⟩, rfl⟩)
          case measure => simp [intOf]; omega
      · have hkn : k = m := by omega
        subst hkn
        obtain ⟨a', c', rfl, hps⟩ := owns_ps hown
        have hfin := fun c => hide (MadeP.mk (c := c) rfl hps hbel)
        clear hown hbel hps
        go_wp2
        go_ret
        exact (hfin _).out

theorem pieces_any (a0 : Option Addr) (n0 c0 : Nat) (a1 : Option Addr) (n1 c1 : Nat) (st sqs : List Int) (w : World) (r0 : RowV w a0 n0 (u8At st)) (r1 : RowV w a1 n1 (u64At sqs))
    (b0 : n0 ≤ 4096) (b1 : n1 ≤ 4096) (hst : ∀ i, 0 ≤ st.getD i 0 ∧ st.getD i 0 ≤ 255) :
    Calls Try.prog 10 #[.slice a0 n0 c0, .slice a1 n1 c1] w (MadeP w (allPs st sqs n0 n1)) := by
  unfold allPs
  by_cases h : n0 = 0
  · subst h; rw [if_pos rfl]; exact pieces_none a0 c0 a1 n1 c1 w
  · rw [if_neg h]; exact pieces_walk a0 n0 c0 a1 n1 c1 st sqs w r0 r1 b0 b1 hst (by omega)

theorem allPs_good (st sqs : List Int) (n0 n1 : Nat) (b0 : n0 ≤ 4096) (hst : ∀ i, 0 ≤ st.getD i 0 ∧ st.getD i 0 ≤ 255) : Good (allPs st sqs n0 n1) ∧ (allPs st sqs n0 n1).length ≤ 4096 := by
  unfold allPs
  split
  · exact ⟨⟨fun i hi => by simp at hi, fun i j _ hj => by simp at hj⟩, by simp⟩
  · have hr : rounds n0 n1 ≤ 4096 := by unfold rounds; omega
    have := pcs_len st sqs (rounds n0 n1)
    exact ⟨(pcs_good st sqs hst _ hr).1, by omega⟩

end Go.Proofs.Qxb6000727a
