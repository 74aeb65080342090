/-
  THE SCRIPT: what it does to the names known and to the queue (plain); zzRun (19).
-/
import Derived.Test.Qxb6000035aWalk
set_option linter.unusedSimpArgs false
set_option linter.unusedVariables false
namespace Go.Proofs.Qxb6000035a
open Go.RowKit

abbrev KQ := List ByteArray × List ByteArray
def stp (s : KQ) (r : ByteArray) (b : Bool) : KQ := if b = true then (addK s.1 r, del s.2 r) else (s.1, freeQ s.1 s.2 r)
def pick (rs : List ByteArray) (p : Int) : ByteArray := rs.getD (p.toNat % rs.length) ⟨#[]⟩
def runTo (rs : List ByteArray) (ks : List Bool) (ps : List Int) : Nat → KQ
  | 0 => ([], [])
  | i + 1 => stp (runTo rs ks ps i) (pick rs (ps.getD i 0)) (ks.getD i false)

theorem addK_len (K : List ByteArray) (r : ByteArray) : (addK K r).length ≤ K.length + 1 := by unfold addK; split <;> simp
theorem freeQ_len (K Q : List ByteArray) (r : ByteArray) : (freeQ K Q r).length ≤ Q.length + 1 := by unfold freeQ; split <;> simp
theorem stp_len (s : KQ) (r : ByteArray) (b : Bool) : (stp s r b).1.length ≤ s.1.length + 1 ∧ (stp s r b).2.length ≤ s.2.length + 1 := by
  unfold stp
  split
  · exact ⟨addK_len _ _, Nat.le_succ_of_le (del_len _ _)⟩
  · exact ⟨Nat.le_succ _, freeQ_len _ _ _⟩
theorem runTo_len (rs : List ByteArray) (ks : List Bool) (ps : List Int) : ∀ i, (runTo rs ks ps i).1.length ≤ i ∧ (runTo rs ks ps i).2.length ≤ i
  | 0 => by simp [runTo]
  | i + 1 => by
    have h := runTo_len rs ks ps i
    have h2 := stp_len (runTo rs ks ps i) (pick rs (ps.getD i 0)) (ks.getD i false)
    simp only [runTo]
    omega

theorem pick_mem (rs : List ByteArray) (p : Int) (h : 0 < rs.length) : pick rs p ∈ rs := by
  have hm := Nat.mod_lt p.toNat h
  unfold pick
  rw [getD_at hm]
  exact List.getElem_mem hm

theorem runTo_sub (rs : List ByteArray) (ks : List Bool) (ps : List Int) (h : 0 < rs.length) : ∀ i, ∀ x ∈ (runTo rs ks ps i).1, x ∈ rs
  | 0 => by simp [runTo]
  | i + 1 => by
    have ih := runTo_sub rs ks ps h i
    intro x hx
    simp only [runTo, stp] at hx
    split at hx
    · simp only [addK] at hx
      split at hx
      · exact ih x hx
      · rcases List.mem_append.1 hx with q | q
        · exact ih x q
        · simp at q; subst q; exact pick_mem rs _ h
    · exact ih x hx

theorem nodup_le : ∀ (l m : List ByteArray), l.Nodup → (∀ x ∈ l, x ∈ m) → l.length ≤ m.length
  | [], m, _, _ => by simp
  | a :: l, m, hn, hs => by
    have ha : a ∈ m := hs a (by simp)
    obtain ⟨A, B, rfl⟩ := List.append_of_mem ha
    have := nodup_le l (A ++ B) (List.nodup_cons.1 hn).2 (fun x hx => by
      have h1 := hs x (List.mem_cons_of_mem _ hx)
      have hne : x ≠ a := fun e => (List.nodup_cons.1 hn).1 (e ▸ hx)
      simp only [List.mem_append, List.mem_cons] at h1 ⊢
      rcases h1 with q | q | q
      · exact Or.inl q
      · exact absurd q hne
      · exact Or.inr q)
    simp only [List.length_cons, List.length_append] at this ⊢
    omega

/-! ### states over a run -/
structure Ran (w : World) (S : TS) (s : KQ) (w' : World) (S' : TS) : Prop where
  tok : Tok w' S'
  K : S'.K = s.1
  Q : S'.Q = s.2
  tb : S'.tb = S.tb
  fg : S'.fg = S.fg
  fr : Fr S.foot w w'
  foot : ∀ k, S'.foot k → S.foot k ∨ w.heap.size ≤ k

theorem Ran.start {w : World} {S : TS} (h : Tok w S) : Ran w S (S.K, S.Q) w S := ⟨h, rfl, rfl, rfl, rfl, Fr.refl _ _, fun k hk => Or.inl hk⟩
theorem Ran.held {w w1 w2 : World} {S S1 S2 : TS} {s : KQ} {r : ByteArray} (h : Ran w S s w1 S1) (h2 : Held w1 S1 r w2 S2) : Ran w S (stp s r true) w2 S2 :=
  ⟨h2.tok, by rw [h2.K, h.K]; rfl, by rw [h2.Q, h.Q]; rfl, h2.tb.trans h.tb, h2.fg.trans h.fg, h.fr.then h2.fr h.foot, fun k hk => by
    rcases h2.foot k hk with q | q
    · exact h.foot k q
    · have := h.fr.size; exact Or.inr (by omega)⟩
theorem Ran.freed {w w1 w2 : World} {S S1 : TS} {s : KQ} {r : ByteArray} (h : Ran w S s w1 S1) (h2 : Tok w2 { S1 with Q := freeQ S1.K S1.Q r }) (h3 : Fr S1.foot w1 w2) :
    Ran w S (stp s r false) w2 { S1 with Q := freeQ S1.K S1.Q r } :=
  ⟨h2, h.K, by show freeQ S1.K S1.Q r = _; rw [h.K, h.Q]; rfl, h.tb, h.fg, h.fr.then h3 h.foot, h.foot⟩
theorem Ran.same {w w1 w2 : World} {S S1 : TS} {s : KQ} (h : Ran w S s w1 S1) (k : Same w1 w2) : Ran w S s w2 S1 :=
  ⟨h.tok.same k, h.K, h.Q, h.tb, h.fg, h.fr.same k, h.foot⟩

/-- Elements in blocks below B. -/
def RowB (B : Nat) (w : World) (a : Option Addr) (n : Nat) (f : Nat → Value) : Prop :=
  0 < n → ∃ b off, a = some ⟨b, off, none⟩ ∧ b < B ∧ ∀ i, i < n → w.cell? ⟨b, off + i, none⟩ = some (f i)
theorem RowB.row {B : Nat} {w : World} {a : Option Addr} {n : Nat} {f : Nat → Value} (h : RowB B w a n f) : RowV w a n f := fun hn => by
  obtain ⟨b, off, ha, _, hc⟩ := h hn
  exact ⟨b, off, ha, hc⟩
theorem RowV.rowB {w : World} {a : Option Addr} {n : Nat} {f : Nat → Value} (h : RowV w a n f) : RowB w.heap.size w a n f := fun hn => by
  obtain ⟨b, off, ha, hc⟩ := h hn
  exact ⟨b, off, ha, World.block_lt_of_cell? w _ (hc 0 hn), hc⟩
theorem RowB.below {B : Nat} {w w' : World} {a : Option Addr} {n : Nat} {f : Nat → Value} (h : RowB B w a n f) (hb : Below B w w') : RowB B w' a n f := fun hn => by
  obtain ⟨b, off, ha, hlt, hc⟩ := h hn
  exact ⟨b, off, ha, hlt, fun i hi => (hb.cell (by exact hlt)).trans (hc i hi)⟩
theorem Ran.below {w w' : World} {S S' : TS} {s : KQ} {B : Nat} (h : Ran w S s w' S') (hB : ∀ k, S.foot k → B ≤ k) (hBw : B ≤ w.heap.size) : Below B w w' := h.fr.below hB hBw

/-- One step of the script, as a call. -/
theorem Ran.callFree {w w1 : World} {S S1 : TS} {s : KQ} (h : Ran w S s w1 S1) (r : ByteArray) (hr : r.size ≤ maxLen) (hQ : s.2.length ≤ 1000000) :
    Calls Try.prog 17 #[.pointer (some ⟨S.tb, 0, none⟩), .string r] w1 fun e w' => e = .returned (.tuple #[]) ∧ ∃ S2, Ran w S (stp s r false) w' S2 := by
  have h1 := (zzFree_any h.tok r hr (by rw [h.Q]; exact hQ)).mono (R' := fun e w' => e = .returned (.tuple #[]) ∧ ∃ S2, Ran w S (stp s r false) w' S2) (fun e w' q => ⟨q.1, _, h.freed q.2.1 q.2.2⟩)
  rw [h.tb] at h1
  exact h1
theorem Ran.callHold {w w1 : World} {S S1 : TS} {s : KQ} (h : Ran w S s w1 S1) (r : ByteArray) (hr : r.size ≤ maxLen) (hQ : s.2.length ≤ 1000000) (hK : s.1.length ≤ 1000000) :
    Calls Try.prog 23 #[.pointer (some ⟨S.tb, 0, none⟩), .string r] w1 fun e w' => e = .returned (.tuple #[.int .u64 S.fg, .bool false]) ∧ ∃ S2, Ran w S (stp s r true) w' S2 := by
  have h1 := (zzHold_any h.tok r hr (by rw [h.Q]; exact hQ) (by rw [h.K]; exact hK)).mono (R' := fun e w' => e = .returned (.tuple #[.int .u64 S1.fg, .bool false]) ∧ ∃ S2, Ran w S (stp s r true) w' S2) (fun e w' ⟨S2, q1, q2⟩ => ⟨q1, S2, h.held q2⟩)
  rw [h.tb, h.fg] at h1
  exact h1

def RunPost (w : World) (S : TS) (s : KQ) (e : Ending) (w' : World) : Prop := ∃ S', e = .returned (.tuple #[]) ∧ Ran w S s w' S'

set_option maxHeartbeats 1000000 in
theorem run_any {w : World} {S : TS} (h : Tok w S) (hK0 : S.K = []) (hQ0 : S.Q = []) {B : Nat} (hB : ∀ k, S.foot k → B ≤ k) (hBw : B ≤ w.heap.size)
    (a0 : Option Addr) (n0 c0 : Nat) (a1 : Option Addr) (n1 c1 : Nat) (a2 : Option Addr) (n2 c2 : Nat) (rs : List ByteArray) (ks : List Bool) (ps : List Int)
    (r0 : RowB B w a0 n0 (strAt rs)) (r1 : RowB B w a1 n1 (boolAt ks)) (r2 : RowB B w a2 n2 (u16At ps)) (l0 : rs.length = n0) (hpos : 0 < n0)
    (b0 : n0 ≤ 4096) (b1 : n1 ≤ 4096) (b2 : n2 ≤ 4096) (hsz : ∀ x ∈ rs, x.size ≤ maxLen) (hps : ∀ i, 0 ≤ ps.getD i 0 ∧ ps.getD i 0 ≤ 65535) :
    Calls Try.prog 19 #[.pointer (some ⟨S.tb, 0, none⟩), .slice a0 n0 c0, .slice a1 n1 c1, .slice a2 n2 c2] w (RunPost w S (runTo rs ks ps (min n1 n2))) := by
  obtain ⟨bb0, of0, rfl, hb0, hc0⟩ := r0 hpos
  have hN1 : min n1 n2 ≤ n1 := Nat.min_le_left _ _
  have hN2 : min n1 n2 ≤ n2 := Nat.min_le_right _ _
  obtain ⟨N, hN⟩ : ∃ N, N = min n1 n2 := ⟨_, rfl⟩
  rw [← hN] at hN1 hN2 ⊢
  have HNm := hide hN
  clear hN
  have hst := Ran.start h
  rw [hK0, hQ0] at hst
  have HST := hide hst
  have HB := hide hB
  have HSZ := hide hsz
  have HL := hide l0
  have R0 := hide r0
  clear hst hB hsz h l0 hK0 hQ0 hc0 r0
  go_enter Try.func19, Try.ntmps19
  go_wp2_with fail
  refine (steps_any _ _ _ _ _ _ _).mono ?_
  rintro e w1 ⟨rfl, rfl⟩
  rw [← HNm.out]
  go_wp2_with fail
  go_loopw [9] (fun i wr => ∃ (k : Nat) (S' : TS), k ≤ N ∧ i = .int .i64 k ∧ Ran w1 S (runTo rs ks ps k) wr S') (fun i _ => N - (intOf i).toNat)
  case atStart => exact ⟨0, S, Nat.zero_le _, rfl, HST.out⟩
  case round =>
    obtain ⟨k, S', hk, rfl, hran⟩ := hrel
    have hbel := hran.below HB.out hBw
    have HR := hide hran
    by_cases hlt : k < N
    · obtain ⟨bb0', of0', e0, _, hc0⟩ := (R0.out.below hbel) hpos
      cases e0
      obtain ⟨bb1, of1, rfl, _, hc1⟩ := (r1.below hbel) (by omega)
      obtain ⟨bb2, of2, rfl, _, hc2⟩ := (r2.below hbel) (by omega)
      have hp := hps k
      have hcp := hc2 k (by omega)
      have hck := hc1 k (by omega)
      have hcr := hc0 ((ps.getD k 0).toNat % n0) (Nat.mod_lt _ hpos)
      have hpk : rs.getD ((ps.getD k 0).toNat % n0) ⟨#[]⟩ = pick rs (ps.getD k 0) := by unfold pick; rw [HL.out]
      unfold strAt at hcr
      unfold boolAt at hck
      unfold u16At at hcp
      rw [hpk] at hcr
      have hsn : runTo rs ks ps (k + 1) = stp (runTo rs ks ps k) (pick rs (ps.getD k 0)) (ks.getD k false) := rfl
      generalize ps.getD k 0 = p at hp hcp hcr hsn hpk
      have hpm : pick rs p ∈ rs := pick_mem rs p (by rw [HL.out]; exact hpos)
      have hps2 := HSZ.out _ hpm
      generalize pick rs p = r at hcr hsn hps2
      generalize ks.getD k false = b at hck hsn
      have HN := hide hsn
      have HP2 := hide hps2
      clear hsn hran hc0 hc1 hc2 hpk hpm hps2 hbel r1 r2 hps
      obtain ⟨hp0, hp1⟩ := hp
      obtain ⟨q, rfl⟩ := Int.eq_ofNat_of_zero_le hp0
      rw [Int.toNat_natCast] at hcr
      have hm0 : 0 ≤ (q : Int) % (n0 : Int) := Int.emod_nonneg _ (by omega)
      have hm1 : (q : Int) % (n0 : Int) < (n0 : Int) := Int.emod_lt_of_pos _ (by omega)
      have hlen := runTo_len rs ks ps k
      have HCF := hide (HR.out.callFree r HP2.out (by omega))
      have HCH := hide (HR.out.callHold r HP2.out (by omega) (by omega))
      clear hlen
      cases b
      · go_wp2_with fail
        refine HCF.out.mono ?_
        rintro e w2 ⟨rfl, S2, hr2'⟩
        have hr2 := hide hr2'
        clear hr2' hcr hck hcp
        go_wp2
        go_roundw
        case rel => exact ⟨k + 1, S2, by omega, by go_num, by rw [HN.out]; exact hr2.out⟩
        case measure => simp [intOf]; omega
      · go_wp2_with fail
        refine HCH.out.mono ?_
        rintro e w2 ⟨rfl, S2, hr2'⟩
        have hr2 := hide hr2'
        clear hr2' hcr hck hcp
        go_wp2
        go_roundw
        case rel => exact ⟨k + 1, S2, by omega, by go_num, by rw [HN.out]; exact hr2.out⟩
        case measure => simp [intOf]; omega
    · have hkN : k = N := by omega
      have hfin : Hid (RunPost w1 S (runTo rs ks ps N) (.returned (.tuple #[])) wr) := ⟨S', rfl, hkN ▸ HR.out⟩
      clear hran hbel r1 r2 hps
      go_wp2
      go_end0
      exact hfin.out

end Go.Proofs.Qxb6000035a
