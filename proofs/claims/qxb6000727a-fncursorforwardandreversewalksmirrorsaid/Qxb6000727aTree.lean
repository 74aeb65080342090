/-
  THE TREE: zzTree (11) builds a search tree over the pieces; where each piece's node and its two keys lie.
-/
import Derived.Test.Qxb6000727aMkPieces
import Derived.OpenShut
import Derived.Deep.RegionHeld3
set_option linter.unusedSimpArgs false
set_option linter.unusedVariables false
namespace Go.Proofs.Qxb6000727a
open Go.RowKit

theorem newFrag_any (w : World) (s e : Option Addr) (ns cs ne ce : Nat) (q : Int) (l r : Option Addr) :
    Calls Try.prog 28 #[.slice s ns cs, .slice e ne ce, .int .u64 q, .pointer l, .pointer r] w fun en w' => en = .returned (.pointer (some ⟨w.heap.size, 0, none⟩)) ∧
      w' = w.alloc (.cells #[.slice s ns cs, .slice e ne ce, .int .u64 q, .int .u32 0, .pointer l, .pointer r] 63) := by
  go_enter Try.func28, Try.ntmps28
  go_wp2
  go_ret
  exact ⟨rfl, rfl⟩

def xorr (sh : Int) (l h : Nat) : Int := bits BinOp.xor IntKind.u32 sh ((l : Int) * 31 + (h : Int) * 17)
theorem xorr_bd (sh : Int) (l h : Nat) : 0 ≤ xorr sh l h ∧ xorr sh l h ≤ 4294967295 := bounds_u32 (wf_bits _ _ _ _)
/-- The root's index of a range. -/
def mid (sh : Int) (l h : Nat) : Nat := l + (xorr sh l h % ((h : Int) - (l : Int))).toNat
theorem mid_ge (sh : Int) (l h : Nat) : l ≤ mid sh l h := Nat.le_add_right _ _
theorem mid_lt (sh : Int) {l h : Nat} (hl : l < h) : mid sh l h < h := by
  unfold mid
  have h1 := Int.emod_lt_of_pos (xorr sh l h) (b := (h : Int) - (l : Int)) (by omega)
  have h2 := Int.emod_nonneg (xorr sh l h) (b := (h : Int) - (l : Int)) (by omega)
  omega

/-- Where the nodes and the keys lie. -/
structure TB where
  blk : Nat → Nat
  sb : Nat → Nat
  eb : Nat → Nat

def ptrB (o : Option Nat) : Value := .pointer (o.map fun b => ⟨b, 0, none⟩)
def rootp (sh : Int) (D : TB) (l h : Nat) : Option Nat := if l < h then some (D.blk (mid sh l h)) else none
def keyV (g : Nat) (v : Int) : Value := .slice (some ⟨g, 0, none⟩) (enc v).length (enc v).length
def fragA (ps : List Pc) (D : TB) (i : Nat) (L R : Option Nat) : Array Value :=
  #[keyV (D.sb i) (lo ps i), keyV (D.eb i) (hi ps i), .int .u64 (sq ps i), .int .u32 0, ptrB L, ptrB R]

structure Frag (w : World) (ps : List Pc) (D : TB) (i : Nat) (L R : Option Nat) : Prop where
  node : Blk w (D.blk i) (fragA ps D i L R) 63
  st : Blk w (D.sb i) (encA (lo ps i)) 5
  en : Blk w (D.eb i) (encA (hi ps i)) 5

def Tree (w : World) (ps : List Pc) (sh : Int) (D : TB) : Nat → Nat → Nat → Prop
  | 0, l, h => h ≤ l
  | f + 1, l, h => l < h → Frag w ps D (mid sh l h) (rootp sh D l (mid sh l h)) (rootp sh D (mid sh l h + 1) h) ∧ Tree w ps sh D f l (mid sh l h) ∧ Tree w ps sh D f (mid sh l h + 1) h

theorem Frag.below {w w' : World} {ps : List Pc} {D : TB} {i : Nat} {L R : Option Nat} (h : Frag w ps D i L R) (hb : Below w.heap.size w w') : Frag w' ps D i L R :=
  ⟨h.node.keep (hb.block _ h.node.lt), h.st.keep (hb.block _ h.st.lt), h.en.keep (hb.block _ h.en.lt)⟩

theorem Tree.below {w w' : World} {ps : List Pc} {sh : Int} {D : TB} (hb : Below w.heap.size w w') : ∀ (f l h : Nat), Tree w ps sh D f l h → Tree w' ps sh D f l h
  | 0, _, _, h => h
  | f + 1, l, h, t => fun hl => ⟨(t hl).1.below hb, Tree.below hb f _ _ (t hl).2.1, Tree.below hb f _ _ (t hl).2.2⟩

def TB.agree (D D' : TB) (l h : Nat) : Prop := ∀ i, l ≤ i → i < h → D'.blk i = D.blk i ∧ D'.sb i = D.sb i ∧ D'.eb i = D.eb i

theorem rootp_agree {sh : Int} {D D' : TB} {l h : Nat} (ha : D.agree D' l h) : rootp sh D' l h = rootp sh D l h := by
  unfold rootp
  split
  · rename_i hl
    rw [(ha _ (mid_ge sh l h) (mid_lt sh hl)).1]
  · rfl

theorem TB.agree.sub {D D' : TB} {l h l' h' : Nat} (ha : D.agree D' l h) (h1 : l ≤ l') (h2 : h' ≤ h) : D.agree D' l' h' := fun i hi hj => ha i (by omega) (by omega)

theorem Tree.congr {w : World} {ps : List Pc} {sh : Int} {D D' : TB} : ∀ (f l h : Nat), D.agree D' l h → Tree w ps sh D f l h → Tree w ps sh D' f l h
  | 0, _, _, _, t => t
  | f + 1, l, h, ha, t => fun hl => by
    obtain ⟨t1, t2, t3⟩ := t hl
    have g1 := mid_ge sh l h
    have g2 := mid_lt sh hl
    have a1 : D.agree D' l (mid sh l h) := ha.sub (Nat.le_refl _) (by omega)
    have a2 : D.agree D' (mid sh l h + 1) h := ha.sub (by omega) (Nat.le_refl _)
    obtain ⟨e1, e2, e3⟩ := ha _ g1 g2
    refine ⟨?_, Tree.congr f _ _ a1 t2, Tree.congr f _ _ a2 t3⟩
    rw [rootp_agree a1, rootp_agree a2]
    refine ⟨?_, ?_, ?_⟩
    · have hn := t1.node
      unfold fragA at hn ⊢
      rw [e1, e2, e3]; exact hn
    · rw [e2]; exact t1.st
    · rw [e3]; exact t1.en

/-- Two trees and the node between them. -/
def TB.join (D E : TB) (M b s e : Nat) : TB :=
  { blk := fun i => if i < M then D.blk i else if i = M then b else E.blk i, sb := fun i => if i < M then D.sb i else if i = M then s else E.sb i, eb := fun i => if i < M then D.eb i else if i = M then e else E.eb i }
theorem TB.join_left (D E : TB) (M b s e l : Nat) : D.agree (D.join E M b s e) l M := fun i _ hj => by simp [TB.join, hj]
theorem TB.join_right (D E : TB) (M b s e h : Nat) : E.agree (D.join E M b s e) (M + 1) h := fun i hi _ => by
  have h1 : ¬ i < M := by omega
  have h2 : ¬ i = M := by omega
  simp [TB.join, h1, h2]
theorem TB.join_at (D E : TB) (M b s e : Nat) : (D.join E M b s e).blk M = b ∧ (D.join E M b s e).sb M = s ∧ (D.join E M b s e).eb M = e := by simp [TB.join]

/-- What zzTree leaves. -/
def Grown11 (w : World) (ps : List Pc) (sh : Int) (f l h : Nat) (e : Ending) (w' : World) : Prop :=
  ∃ D : TB, e = .returned (ptrB (rootp sh D l h)) ∧ Tree w' ps sh D f l h ∧ Below w.heap.size w w'

theorem tree_none (w : World) (ps : List Pc) (sh : Int) (f l h : Nat) (hl : h ≤ l) : Tree w ps sh ⟨fun _ => 0, fun _ => 0, fun _ => 0⟩ f l h := by
  cases f with
  | zero => exact hl
  | succ f => exact fun q => by omega

set_option maxHeartbeats 4000000 in
theorem tree_step (a : Option Addr) (n c : Nat) (ps : List Pc) (hg : Good ps) (hn : n ≤ 4096) (sh : Int) (hs0 : 0 ≤ sh) (hs1 : sh ≤ 4294967295) (f : Nat)
    (ih : ∀ (l h : Nat) (w : World), h - l ≤ f → h ≤ n → l ≤ 4097 → PsIn w a n ps → Calls Try.prog 11 #[.slice a n c, .int .i64 l, .int .i64 h, .int .u32 sh] w (Grown11 w ps sh f l h))
    (l h : Nat) (w : World) (hf : h - l ≤ f + 1) (hh : h ≤ n) (hl4 : l ≤ 4097) (hps : PsIn w a n ps) (hl : l < h) : Calls Try.prog 11 #[.slice a n c, .int .i64 l, .int .i64 h, .int .u32 sh] w (Grown11 w ps sh (f + 1) l h) := by
  obtain ⟨X, hX⟩ : ∃ X, bits BinOp.xor IntKind.u32 sh ((l : Int) * 31 + (h : Int) * 17) = X := ⟨_, rfl⟩
  have hXe : xorr sh l h = X := hX
  have hXb := xorr_bd sh l h
  rw [hXe] at hXb
  obtain ⟨hX0, hX1⟩ := hXb
  obtain ⟨d, hd⟩ : ∃ d : Nat, X % ((h : Int) - (l : Int)) = (d : Int) := Int.eq_ofNat_of_zero_le (Int.emod_nonneg _ (by omega))
  have hdl : (d : Int) < (h : Int) - (l : Int) := by rw [← hd]; exact Int.emod_lt_of_pos _ (by omega)
  obtain ⟨M, hM⟩ : ∃ M : Nat, (l : Int) + (d : Int) = (M : Int) := ⟨l + d, by omega⟩
  have hmid : mid sh l h = M := by unfold mid; rw [hXe, hd]; omega
  have hM0 : l ≤ M := by omega
  have hM1 : M < h := by omega
  have HMID := hide hmid
  have HPS := hide hps
  have HG := hide hg
  have C1 := hide (ih l M w (by omega) (by omega) (by omega) hps)
  have IH := hide ih
  clear hmid hXe hps hg ih
  go_enter Try.func11, Try.ntmps11
  go_wp2_with fail
  refine C1.out.mono ?_
  rintro e w1 ⟨DL, rfl, htL, hb1⟩
  have HTL := hide htL
  have HB1 := hide hb1
  clear htL hb1
  obtain ⟨L, hL⟩ : ∃ L, ptrB (rootp sh DL l M) = .pointer L := ⟨_, rfl⟩
  rw [hL]
  have HLe := hide hL
  clear hL
  have hcast : (M : Int) + 1 = ((M + 1 : Nat) : Int) := by omega
  have c2 := IH.out (M + 1) h w1 (by omega) (by omega) (by omega) (HPS.out.below HB1.out)
  rw [← hcast] at c2
  have C2 := hide c2
  clear c2 hcast
  go_wp2_with fail
  refine C2.out.mono ?_
  rintro e w2 ⟨DR, rfl, htR, hb2⟩
  have HTR := hide htR
  have HTL2 := hide (Tree.below hb2 _ _ _ HTL.out)
  have HB2 := hide (HB1.out.trans (hb2.mono HB1.out.size))
  clear htR hb2
  obtain ⟨R, hR⟩ : ∃ R, ptrB (rootp sh DR (M + 1) h) = .pointer R := ⟨_, rfl⟩
  rw [hR]
  have HRe := hide hR
  clear hR
  have hpl := (HPS.out.below HB2.out).1
  obtain ⟨b, off, rfl, hc⟩ := (HPS.out.below HB2.out).2 (by omega)
  obtain ⟨hc1, hc2, hc3⟩ := hc M (by omega)
  have hbl : b < w2.heap.size := World.block_lt_of_cell? w2 _ hc1
  obtain ⟨q0, q1, q2⟩ := HG.out.pos M (by omega)
  obtain ⟨x, hx⟩ : ∃ x, lo ps M = x := ⟨_, rfl⟩
  obtain ⟨y, hy⟩ : ∃ y, hi ps M = y := ⟨_, rfl⟩
  obtain ⟨z, hz⟩ : ∃ z, sq ps M = z := ⟨_, rfl⟩
  rw [hx] at hc1 q0 q1
  rw [hy] at hc2 q1 q2
  rw [hz] at hc3
  have HX := hide hx
  have HY := hide hy
  have HZ := hide hz
  have hi0 : (0 : Int) ≤ (M : Int) := by omega
  have hi1 : (M : Int) < (n : Int) := by omega
  have hbl1 : b < w2.heap.size + 1 := by omega
  have hbl2 : b < w2.heap.size + 1 + 1 := by omega
  clear hc hX hd hM hx hy hz hpl
  go_wp2_with fail
  go_region_held3 (fun w' => w'.cell? ⟨b, off + M * 3, none⟩ = some (.int .u32 x) ∧ w'.cell? ⟨b, off + M * 3 + 1, none⟩ = some (.int .u32 y) ∧ w'.cell? ⟨b, off + M * 3 + 2, none⟩ = some (.int .u64 z)) (simp [*, World.cell?_alloc_past])
    (first
    | (go_at_call_of 14 x; refine (enc_any _ x q0 (by omega)).mono ?_; rintro e w' ⟨rfl, rfl⟩)
    | (go_at_call_of 14 y; refine (enc_any _ y (by omega) (by omega)).mono ?_; rintro e w' ⟨rfl, rfl⟩)
    | (go_at_call 28; refine (newFrag_any _ _ _ _ _ _ _ _ _ _).mono ?_; rintro e w' ⟨rfl, rfl⟩))
  go_wp2
  go_ret
  have hb3 : Below w2.heap.size w2 (((w2.alloc (.cells (encA x) 5)).alloc (.cells (encA y) 5)).alloc (.cells #[.slice (some ⟨w2.heap.size, 0, none⟩) (enc x).length (enc x).length, .slice (some ⟨w2.heap.size + 1, 0, none⟩) (enc y).length (enc y).length, .int .u64 z, .int .u32 0, .pointer L, .pointer R] 63)) :=
    ((((Below.refl _ _).alloc (Nat.le_refl _) _).alloc (by simp only [World.size_alloc]; omega) _).alloc (by simp only [World.size_alloc]; omega) _)
  have hb4 := hb3.drew
  refine ⟨DL.join DR M (w2.heap.size + 1 + 1) w2.heap.size (w2.heap.size + 1), ?_, ?_, HB2.out.trans (hb4.mono HB2.out.size)⟩
  · unfold rootp
    rw [if_pos hl, HMID.out, (TB.join_at DL DR M _ _ _).1]
    rfl
  · intro _
    rw [HMID.out]
    have aL : DL.agree (DL.join DR M (w2.heap.size + 1 + 1) w2.heap.size (w2.heap.size + 1)) l M := TB.join_left DL DR M _ _ _ l
    have aR : DR.agree (DL.join DR M (w2.heap.size + 1 + 1) w2.heap.size (w2.heap.size + 1)) (M + 1) h := TB.join_right DL DR M _ _ _ h
    refine ⟨?_, Tree.congr f _ _ aL (Tree.below hb4 _ _ _ HTL2.out), Tree.congr f _ _ aR (Tree.below hb4 _ _ _ HTR.out)⟩
    rw [rootp_agree aL, rootp_agree aR]
    obtain ⟨j1, j2, j3⟩ := TB.join_at DL DR M (w2.heap.size + 1 + 1) w2.heap.size (w2.heap.size + 1)
    refine ⟨?_, ?_, ?_⟩
    · unfold fragA
      rw [j1, j2, j3, HX.out, HY.out, HZ.out, HLe.out, HRe.out]
      have := Blk.made ((w2.alloc (.cells (encA x) 5)).alloc (.cells (encA y) 5)) #[.slice (some ⟨w2.heap.size, 0, none⟩) (enc x).length (enc x).length, .slice (some ⟨w2.heap.size + 1, 0, none⟩) (enc y).length (enc y).length, .int .u64 z, .int .u32 0, .pointer L, .pointer R] 63
      simp only [World.size_alloc] at this
      exact this
    · rw [j2, HX.out]
      exact ((Blk.made w2 (encA x) 5).alloc _).alloc _
    · rw [j3, HY.out]
      have := Blk.made (w2.alloc (.cells (encA x) 5)) (encA y) 5
      simp only [World.size_alloc] at this
      exact this.alloc _

theorem tree_empty (a : Option Addr) (n c : Nat) (ps : List Pc) (sh : Int) (f l h : Nat) (w : World) (hl : ¬ l < h) : Calls Try.prog 11 #[.slice a n c, .int .i64 l, .int .i64 h, .int .u32 sh] w (Grown11 w ps sh f l h) := by
  have hlt : ¬ ((l : Int) < (h : Int)) := by omega
  have hfin : Hid (Grown11 w ps sh f l h (.returned (.pointer none)) w) := by
    refine ⟨⟨fun _ => 0, fun _ => 0, fun _ => 0⟩, ?_, tree_none _ _ _ _ _ _ (by omega), Below.refl _ _⟩
    unfold rootp
    rw [if_neg hl]
    rfl
  go_enter Try.func11, Try.ntmps11
  go_wp2
  go_ret
  exact hfin.out


theorem tree_any (a : Option Addr) (n c : Nat) (ps : List Pc) (hg : Good ps) (hn : n ≤ 4096) (sh : Int) (hs0 : 0 ≤ sh) (hs1 : sh ≤ 4294967295) (f : Nat) :
    ∀ (l h : Nat) (w : World), h - l ≤ f → h ≤ n → l ≤ 4097 → PsIn w a n ps → Calls Try.prog 11 #[.slice a n c, .int .i64 l, .int .i64 h, .int .u32 sh] w (Grown11 w ps sh f l h) := by
  induction f with
  | zero => exact fun l h w hf _ _ _ => tree_empty a n c ps sh 0 l h w (by omega)
  | succ f ih =>
    intro l h w hf hh hl4 hps
    by_cases hl : l < h
    · exact tree_step a n c ps hg hn sh hs0 hs1 f ih l h w hf hh hl4 hps hl
    · exact tree_empty a n c ps sh (f + 1) l h w hl

end Go.Proofs.Qxb6000727a
