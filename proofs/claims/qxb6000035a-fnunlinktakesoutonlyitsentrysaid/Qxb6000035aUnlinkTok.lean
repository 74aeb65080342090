/-
  'unlink' (28) over the state: the name goes out of the queue; nothing else turns.
-/
import Derived.Test.Qxb6000035aUnlink
set_option linter.unusedSimpArgs false
set_option linter.unusedVariables false
namespace Go.Proofs.Qxb6000035a
open Go.RowKit Go.Maps

/-- The six stores. -/
def six (w : World) (a1 i1 : Nat) (v1 : Value) (a2 i2 : Nat) (v2 : Value) (eb tb : Nat) (n : Int) : World :=
  (((((w.setCell ⟨a1, i1, none⟩ v1).setCell ⟨a2, i2, none⟩ v2).setCell ⟨eb, 3, none⟩ (.bool false)).setCell ⟨eb, 4, none⟩ (.pointer none)).setCell ⟨eb, 5, none⟩ (.pointer none)).setCell ⟨tb, 3, none⟩ (.int .i64 n)

def sixC (a1 i1 : Nat) (v1 : Value) (a2 i2 : Nat) (v2 : Value) (eb tb : Nat) (n : Int) (k : Nat) (cs : Array Value) : Array Value :=
  let c1 := if k = a1 then cs.setIfInBounds i1 v1 else cs
  let c2 := if k = a2 then c1.setIfInBounds i2 v2 else c1
  let c3 := if k = eb then c2.setIfInBounds 3 (.bool false) else c2
  let c4 := if k = eb then c3.setIfInBounds 4 (.pointer none) else c3
  let c5 := if k = eb then c4.setIfInBounds 5 (.pointer none) else c4
  if k = tb then c5.setIfInBounds 3 (.int .i64 n) else c5

theorem six_blk {w : World} {a1 i1 : Nat} {v1 : Value} {a2 i2 : Nat} {v2 : Value} {eb tb : Nat} {n : Int} {k : Nat} {cs : Array Value} {t : TypeId} (h : Blk w k cs t) :
    Blk (six w a1 i1 v1 a2 i2 v2 eb tb n) k (sixC a1 i1 v1 a2 i2 v2 eb tb n k cs) t :=
  (((((h.seti a1 i1 v1).seti a2 i2 v2).seti eb 3 _).seti eb 4 _).seti eb 5 _).seti tb 3 _

theorem six_fr {F : Nat → Prop} {w : World} {a1 i1 : Nat} {v1 : Value} {a2 i2 : Nat} {v2 : Value} {eb tb : Nat} {n : Int} (h1 : F a1) (h2 : F a2) (h3 : F eb) (h4 : F tb) :
    Fr F w (six w a1 i1 v1 a2 i2 v2 eb tb n) :=
  ((((((Fr.refl F w).set (p := ⟨a1, i1, none⟩) h1 v1).set (p := ⟨a2, i2, none⟩) h2 v2).set (p := ⟨eb, 3, none⟩) h3 _).set (p := ⟨eb, 4, none⟩) h3 _).set (p := ⟨eb, 5, none⟩) h3 _).set (p := ⟨tb, 3, none⟩) h4 _

theorem six_map {w : World} {a1 i1 : Nat} {v1 : Value} {a2 i2 : Nat} {v2 : Value} {eb tb : Nat} {n : Int} {mb N : Nat} {D : DataW Unit}
    (h : w.ownsMap Try.prog 9 pE mb N D) (h1 : mb ≠ a1) (h2 : mb ≠ a2) (h3 : mb ≠ eb) (h4 : mb ≠ tb) : (six w a1 i1 v1 a2 i2 v2 eb tb n).ownsMap Try.prog 9 pE mb N D :=
  (((((h.setCell (a := ⟨a1, i1, none⟩) h1 v1).setCell (a := ⟨a2, i2, none⟩) h2 v2).setCell (a := ⟨eb, 3, none⟩) h3 _).setCell (a := ⟨eb, 4, none⟩) h3 _).setCell (a := ⟨eb, 5, none⟩) h3 _).setCell (a := ⟨tb, 3, none⟩) h4 _

/-- Where the first store goes. -/
def TS.a1 (S : TS) (r : ByteArray) : Nat := match pre S.Q r with | none => S.tb | some p => S.blk p
def TS.i1 (S : TS) (r : ByteArray) : Nat := match pre S.Q r with | none => 1 | some _ => 5
def TS.a2 (S : TS) (r : ByteArray) : Nat := match suc S.Q r with | none => S.tb | some p => S.blk p
def TS.i2 (S : TS) (r : ByteArray) : Nat := match suc S.Q r with | none => 2 | some _ => 4

def TS.un (S : TS) (r : ByteArray) (w : World) : World :=
  six w (S.a1 r) (S.i1 r) (ptr S.blk (suc S.Q r)) (S.a2 r) (S.i2 r) (ptr S.blk (pre S.Q r)) (S.blk r) S.tb ((S.Q.length : Int) - 1)

theorem Tok.tb_ne {w : World} {S : TS} (h : Tok w S) {s : ByteArray} (hs : s ∈ S.K) : S.blk s ≠ S.tb := fun e => h.hdr.ne (h.ent s hs) (by decide) e.symm
theorem Tok.blk_ne {w : World} {S : TS} (h : Tok w S) {s s' : ByteArray} (hs : s ∈ S.K) (hs' : s' ∈ S.K) (hne : s ≠ s') : S.blk s ≠ S.blk s' := fun e => hne (h.inj s hs s' hs' e)

theorem Tok.un {w : World} {S : TS} (h : Tok w S) {r : ByteArray} (hr : r ∈ S.Q) : Tok (S.un r w) { S with Q := del S.Q r } ∧ Fr S.foot w (S.un r w) := by
  have hrK := h.sub r hr
  have hf1 : S.foot (S.a1 r) := by
    unfold TS.a1
    split
    · exact Or.inl rfl
    · rename_i p hp; exact Or.inr (Or.inr ⟨p, h.sub p (pre_mem _ _ _ hp).2, rfl⟩)
  have hf2 : S.foot (S.a2 r) := by
    unfold TS.a2
    split
    · exact Or.inl rfl
    · rename_i p hp; exact Or.inr (Or.inr ⟨p, h.sub p (suc_mem _ _ _ hp).2, rfl⟩)
  have hfe : S.foot (S.blk r) := Or.inr (Or.inr ⟨r, hrK, rfl⟩)
  have hft : S.foot S.tb := Or.inl rfl
  have hrt := h.tb_ne hrK
  have hpos : 0 < S.Q.length := List.length_pos_of_mem hr
  refine ⟨⟨?_, ?_, h.inj, h.ndK, del_nodup h.ndQ r, fun s hs => h.sub s ((mem_del h.ndQ).1 hs).2, h.small, ?_⟩, six_fr hf1 hf2 hfe hft⟩
  · have hb := six_blk (a1 := S.a1 r) (i1 := S.i1 r) (v1 := ptr S.blk (suc S.Q r)) (a2 := S.a2 r) (i2 := S.i2 r) (v2 := ptr S.blk (pre S.Q r)) (eb := S.blk r) (tb := S.tb) (n := (S.Q.length : Int) - 1) h.hdr
    have hl : ((del S.Q r).length : Int) = (S.Q.length : Int) - 1 := by rw [del_length hr]; omega
    have e : sixC (S.a1 r) (S.i1 r) (ptr S.blk (suc S.Q r)) (S.a2 r) (S.i2 r) (ptr S.blk (pre S.Q r)) (S.blk r) S.tb ((S.Q.length : Int) - 1) S.tb S.hdr = TS.hdr { S with Q := del S.Q r } := by
      simp only [TS.hdr, head_del S.Q r h.ndQ hr, last_del S.Q r h.ndQ hr, hl]
      cases hp : pre S.Q r with
      | none =>
        cases hn : suc S.Q r with
        | none => simp [sixC, TS.a1, TS.i1, TS.a2, TS.i2, hp, hn, Ne.symm hrt]
        | some n =>
          have hnt := h.tb_ne (h.sub n (suc_mem _ _ _ hn).2)
          simp [sixC, TS.a1, TS.i1, TS.a2, TS.i2, hp, hn, Ne.symm hrt, Ne.symm hnt]
      | some p =>
        have hpt := h.tb_ne (h.sub p (pre_mem _ _ _ hp).2)
        cases hn : suc S.Q r with
        | none => simp [sixC, TS.a1, TS.i1, TS.a2, TS.i2, hp, hn, Ne.symm hrt, Ne.symm hpt]
        | some n =>
          have hnt := h.tb_ne (h.sub n (suc_mem _ _ _ hn).2)
          simp [sixC, TS.a1, TS.i1, TS.a2, TS.i2, hp, hn, Ne.symm hrt, Ne.symm hpt, Ne.symm hnt]
    rw [e] at hb
    exact hb
  · intro s hs
    have hb := six_blk (a1 := S.a1 r) (i1 := S.i1 r) (v1 := ptr S.blk (suc S.Q r)) (a2 := S.a2 r) (i2 := S.i2 r) (v2 := ptr S.blk (pre S.Q r)) (eb := S.blk r) (tb := S.tb) (n := (S.Q.length : Int) - 1) (h.ent s hs)
    have hst := h.tb_ne hs
    have e : sixC (S.a1 r) (S.i1 r) (ptr S.blk (suc S.Q r)) (S.a2 r) (S.i2 r) (ptr S.blk (pre S.Q r)) (S.blk r) S.tb ((S.Q.length : Int) - 1) (S.blk s) (S.ent s) = TS.ent { S with Q := del S.Q r } s := by
      simp only [TS.ent, pre_del S.Q r s h.ndQ hr, suc_del S.Q r s h.ndQ hr]
      by_cases hsr : s = r
      · subst hsr
        have hno : isIn s (del S.Q s) = false := isIn_no (fun q => ((mem_del h.ndQ).1 q).1 rfl)
        have h1 : S.blk s ≠ S.a1 s := by
          unfold TS.a1
          split
          · exact hst
          · rename_i p hp; exact h.blk_ne hs (h.sub p (pre_mem _ _ _ hp).2) (fun e => pre_ne _ _ _ h.ndQ hp e.symm)
        have h2 : S.blk s ≠ S.a2 s := by
          unfold TS.a2
          split
          · exact hst
          · rename_i p hp; exact h.blk_ne hs (h.sub p (suc_mem _ _ _ hp).2) (fun e => suc_ne _ _ _ h.ndQ hp e.symm)
        simp [sixC, h1, h2, hst, hno, ptr]
      · have hne := h.blk_ne hs hrK hsr
        have hq : isIn s (del S.Q r) = isIn s S.Q := by
          rw [Bool.eq_iff_iff, isIn_iff, isIn_iff, mem_del h.ndQ]
          exact ⟨fun q => q.2, fun q => ⟨hsr, q⟩⟩
        have h1 : S.blk s = S.a1 r ↔ pre S.Q r = some s := by
          unfold TS.a1
          split
          · rename_i hp; rw [hp]; simp [hst]
          · rename_i p hp
            rw [hp]
            constructor
            · intro e; rw [h.inj s hs p (h.sub p (pre_mem _ _ _ hp).2) e]
            · intro e; cases e; rfl
        have h2 : S.blk s = S.a2 r ↔ suc S.Q r = some s := by
          unfold TS.a2
          split
          · rename_i hp; rw [hp]; simp [hst]
          · rename_i p hp
            rw [hp]
            constructor
            · intro e; rw [h.inj s hs p (h.sub p (suc_mem _ _ _ hp).2) e]
            · intro e; cases e; rfl
        have hi1 : pre S.Q r = some s → S.i1 r = 5 := fun q => by simp [TS.i1, q]
        have hi2 : suc S.Q r = some s → S.i2 r = 4 := fun q => by simp [TS.i2, q]
        by_cases hp : pre S.Q r = some s
        · by_cases hn : suc S.Q r = some s
          · exact absurd rfl (pre_suc_ne _ _ _ _ h.ndQ hp hn)
          · simp only [sixC, if_pos (h1.2 hp), if_neg (fun q => hn (h2.1 q)), if_neg hne, if_neg hst, hi1 hp, hq, if_pos hp, if_neg hn, if_neg hsr]
            simp
        · by_cases hn : suc S.Q r = some s
          · simp only [sixC, if_neg (fun q => hp (h1.1 q)), if_pos (h2.2 hn), if_neg hne, if_neg hst, hi2 hn, hq, if_neg hp, if_pos hn, if_neg hsr]
            simp
          · simp only [sixC, if_neg (fun q => hp (h1.1 q)), if_neg (fun q => hn (h2.1 q)), if_neg hne, if_neg hst, hq, if_neg hp, if_neg hn, if_neg hsr]
    rw [e] at hb
    exact hb
  · rcases h.map with hm | ⟨mb, D, hm, hown, hs⟩
    · exact Or.inl hm
    · refine Or.inr ⟨mb, D, hm, ?_, hs⟩
      have hx : ∀ k, (k = S.tb ∨ ∃ s ∈ S.K, S.blk s = k) → mb ≠ k := by
        rintro k (rfl | ⟨s, hs, rfl⟩)
        · exact h.map_ne h.hdr hm
        · exact h.map_ne (h.ent s hs) hm
      refine six_map hown (hx _ ?_) (hx _ ?_) (hx _ (Or.inr ⟨r, hrK, rfl⟩)) (hx _ (Or.inl rfl))
      · unfold TS.a1
        split
        · exact Or.inl rfl
        · rename_i p hp; exact Or.inr ⟨p, h.sub p (pre_mem _ _ _ hp).2, rfl⟩
      · unfold TS.a2
        split
        · exact Or.inl rfl
        · rename_i p hp; exact Or.inr ⟨p, h.sub p (suc_mem _ _ _ hp).2, rfl⟩

theorem unlink_any {w : World} {S : TS} (h : Tok w S) {r : ByteArray} (hr : r ∈ S.Q) (hlen : S.Q.length ≤ 1000000) :
    Calls Try.prog 28 #[.pointer (some ⟨S.tb, 0, none⟩), .pointer (some ⟨S.blk r, 0, none⟩)] w fun e w' => e = .returned (.tuple #[]) ∧ Tok w' { S with Q := del S.Q r } ∧ Fr S.foot w w' := by
  obtain ⟨hu, hf⟩ := h.un hr
  have hpos : 0 < S.Q.length := List.length_pos_of_mem hr
  have hrK := h.sub r hr
  have fin : ∀ (e : Ending) (w' : World), e = .returned (.tuple #[]) ∧ Same (S.un r w) w' → e = .returned (.tuple #[]) ∧ Tok w' { S with Q := del S.Q r } ∧ Fr S.foot w w' :=
    fun e w' q => ⟨q.1, hu.same q.2, hf.same q.2⟩
  have hT := h.hdr
  have hE := h.ent r hrK
  unfold TS.hdr at hT
  unfold TS.ent at hE
  cases hp : pre S.Q r with
  | none =>
    cases hn : suc S.Q r with
    | none =>
      rw [hp, hn] at hE
      refine (unlink_nn w S.tb (S.blk r) S.mo _ _ S.Q.length S.fg r S.fg 0 _ hT hE (by omega) (by omega)).mono ?_
      rintro e w' ⟨he, hw⟩
      refine fin e w' ⟨he, ?_⟩
      rw [hw]
      have e1 : S.un r w = six w S.tb 1 (.pointer none) S.tb 2 (.pointer none) (S.blk r) S.tb ((S.Q.length : Int) - 1) := by simp [TS.un, TS.a1, TS.i1, TS.a2, TS.i2, hp, hn, ptr]
      rw [e1]
      exact Same.refl _
    | some n =>
      have hnK := h.sub n (suc_mem _ _ _ hn).2
      have hN := h.ent n hnK
      unfold TS.ent at hN
      rw [hp, hn] at hE
      refine (unlink_ns w S.tb (S.blk r) (S.blk n) S.mo _ _ S.Q.length S.fg r S.fg 0 _ n S.fg 0 _ _ _ hT hE hN (h.blk_ne hnK hrK (suc_ne _ _ _ h.ndQ hn)) (by omega) (by omega)).mono ?_
      rintro e w' ⟨he, hw⟩
      refine fin e w' ⟨he, ?_⟩
      have e1 : S.un r w = six w S.tb 1 (.pointer (some ⟨S.blk n, 0, none⟩)) (S.blk n) 4 (.pointer none) (S.blk r) S.tb ((S.Q.length : Int) - 1) := by simp [TS.un, TS.a1, TS.i1, TS.a2, TS.i2, hp, hn, ptr]
      rw [e1]
      exact hw
  | some p =>
    have hpK := h.sub p (pre_mem _ _ _ hp).2
    have hP := h.ent p hpK
    unfold TS.ent at hP
    cases hn : suc S.Q r with
    | none =>
      rw [hp, hn] at hE
      refine (unlink_sn w S.tb (S.blk r) (S.blk p) S.mo _ _ S.Q.length S.fg r S.fg 0 _ p S.fg 0 _ _ _ hT hE hP (h.blk_ne hpK hrK (pre_ne _ _ _ h.ndQ hp)) (by omega) (by omega)).mono ?_
      rintro e w' ⟨he, hw⟩
      refine fin e w' ⟨he, ?_⟩
      have e1 : S.un r w = six w (S.blk p) 5 (.pointer none) S.tb 2 (.pointer (some ⟨S.blk p, 0, none⟩)) (S.blk r) S.tb ((S.Q.length : Int) - 1) := by simp [TS.un, TS.a1, TS.i1, TS.a2, TS.i2, hp, hn, ptr]
      rw [e1]
      exact hw
    | some n =>
      have hnK := h.sub n (suc_mem _ _ _ hn).2
      have hN := h.ent n hnK
      unfold TS.ent at hN
      rw [hp, hn] at hE
      refine (unlink_ss w S.tb (S.blk r) (S.blk p) (S.blk n) S.mo _ _ S.Q.length S.fg r S.fg 0 _ p S.fg 0 _ _ _ n S.fg 0 _ _ _ hT hE hP hN (h.blk_ne hpK hrK (pre_ne _ _ _ h.ndQ hp)) (h.blk_ne hnK hrK (suc_ne _ _ _ h.ndQ hn)) (h.blk_ne hpK hnK (pre_suc_ne _ _ _ _ h.ndQ hp hn)) (by omega) (by omega)).mono ?_
      rintro e w' ⟨he, hw⟩
      refine fin e w' ⟨he, ?_⟩
      have e1 : S.un r w = six w (S.blk p) 5 (.pointer (some ⟨S.blk n, 0, none⟩)) (S.blk n) 4 (.pointer (some ⟨S.blk p, 0, none⟩)) (S.blk r) S.tb ((S.Q.length : Int) - 1) := by simp [TS.un, TS.a1, TS.i1, TS.a2, TS.i2, hp, hn, ptr]
      rw [e1]
      exact hw

end Go.Proofs.Qxb6000035a
