/-
  'free' (29) and 'hold' (30) over the state.
-/
import Derived.Test.Qxb6000035aHold
set_option linter.unusedSimpArgs false
set_option linter.unusedVariables false
namespace Go.Proofs.Qxb6000035a
open Go.RowKit Go.Maps

def freeQ (K Q : List ByteArray) (r : ByteArray) : List ByteArray := if isIn r K = true ∧ isIn r Q = false then Q ++ [r] else Q
def addK (K : List ByteArray) (r : ByteArray) : List ByteArray := if isIn r K = true then K else K ++ [r]

theorem ptr_none (blk : ByteArray → Nat) : ptr blk none = .pointer none := rfl
theorem ptr_some (blk : ByteArray → Nat) (x : ByteArray) : ptr blk (some x) = .pointer (some ⟨blk x, 0, none⟩) := rfl

def sixF (w : World) (eb : Nat) (v4 : Value) (a i : Nat) (tb : Nat) (n : Int) : World :=
  (((((w.setCell ⟨eb, 3, none⟩ (.bool true)).setCell ⟨eb, 4, none⟩ v4).setCell ⟨eb, 5, none⟩ (.pointer none)).setCell ⟨a, i, none⟩ (.pointer (some ⟨eb, 0, none⟩))).setCell ⟨tb, 2, none⟩ (.pointer (some ⟨eb, 0, none⟩))).setCell ⟨tb, 3, none⟩ (.int .i64 n)

def sixFC (eb : Nat) (v4 : Value) (a i : Nat) (tb : Nat) (n : Int) (k : Nat) (cs : Array Value) : Array Value :=
  let c1 := if k = eb then cs.setIfInBounds 3 (.bool true) else cs
  let c2 := if k = eb then c1.setIfInBounds 4 v4 else c1
  let c3 := if k = eb then c2.setIfInBounds 5 (.pointer none) else c2
  let c4 := if k = a then c3.setIfInBounds i (.pointer (some ⟨eb, 0, none⟩)) else c3
  let c5 := if k = tb then c4.setIfInBounds 2 (.pointer (some ⟨eb, 0, none⟩)) else c4
  if k = tb then c5.setIfInBounds 3 (.int .i64 n) else c5

theorem sixF_blk {w : World} {eb : Nat} {v4 : Value} {a i : Nat} {tb : Nat} {n : Int} {k : Nat} {cs : Array Value} {t : TypeId} (h : Blk w k cs t) :
    Blk (sixF w eb v4 a i tb n) k (sixFC eb v4 a i tb n k cs) t :=
  (((((h.seti eb 3 _).seti eb 4 _).seti eb 5 _).seti a i _).seti tb 2 _).seti tb 3 _

theorem sixF_fr {F : Nat → Prop} {w : World} {eb : Nat} {v4 : Value} {a i : Nat} {tb : Nat} {n : Int} (h1 : F eb) (h2 : F a) (h3 : F tb) : Fr F w (sixF w eb v4 a i tb n) :=
  ((((((Fr.refl F w).set (p := ⟨eb, 3, none⟩) h1 _).set (p := ⟨eb, 4, none⟩) h1 _).set (p := ⟨eb, 5, none⟩) h1 _).set (p := ⟨a, i, none⟩) h2 _).set (p := ⟨tb, 2, none⟩) h3 _).set (p := ⟨tb, 3, none⟩) h3 _

theorem sixF_map {w : World} {eb : Nat} {v4 : Value} {a i : Nat} {tb : Nat} {n : Int} {mb N : Nat} {D : DataW Unit}
    (h : w.ownsMap Try.prog 9 pE mb N D) (h1 : mb ≠ eb) (h2 : mb ≠ a) (h3 : mb ≠ tb) : (sixF w eb v4 a i tb n).ownsMap Try.prog 9 pE mb N D :=
  (((((h.setCell (a := ⟨eb, 3, none⟩) h1 _).setCell (a := ⟨eb, 4, none⟩) h1 _).setCell (a := ⟨eb, 5, none⟩) h1 _).setCell (a := ⟨a, i, none⟩) h2 _).setCell (a := ⟨tb, 2, none⟩) h3 _).setCell (a := ⟨tb, 3, none⟩) h3 _

def TS.fa (S : TS) : Nat := match S.Q.getLast? with | none => S.tb | some p => S.blk p
def TS.fi (S : TS) : Nat := match S.Q.getLast? with | none => 1 | some _ => 5
def TS.fr (S : TS) (r : ByteArray) (w : World) : World := sixF w (S.blk r) (ptr S.blk S.Q.getLast?) S.fa S.fi S.tb ((S.Q.length : Int) + 1)

theorem Tok.fr {w : World} {S : TS} (h : Tok w S) {r : ByteArray} (hrK : r ∈ S.K) (hr : r ∉ S.Q) : Tok (S.fr r w) { S with Q := S.Q ++ [r] } ∧ Fr S.foot w (S.fr r w) := by
  have hlast : ∀ p, S.Q.getLast? = some p → p ∈ S.Q := fun p hp => List.mem_of_getLast? hp
  have hfa : S.fa = S.tb ∨ ∃ s ∈ S.K, S.blk s = S.fa := by
    unfold TS.fa
    split
    · exact Or.inl rfl
    · rename_i p hp; exact Or.inr ⟨p, h.sub p (hlast p hp), rfl⟩
  have hrt := h.tb_ne hrK
  refine ⟨⟨?_, ?_, h.inj, h.ndK, nodup_snoc _ _ h.ndQ hr, ?_, h.small, ?_⟩, sixF_fr (Or.inr (Or.inr ⟨r, hrK, rfl⟩)) ?_ (Or.inl rfl)⟩
  · have hb := sixF_blk (eb := S.blk r) (v4 := ptr S.blk S.Q.getLast?) (a := S.fa) (i := S.fi) (tb := S.tb) (n := (S.Q.length : Int) + 1) h.hdr
    have e : sixFC (S.blk r) (ptr S.blk S.Q.getLast?) S.fa S.fi S.tb ((S.Q.length : Int) + 1) S.tb S.hdr = TS.hdr { S with Q := S.Q ++ [r] } := by
      cases hp : S.Q.getLast? with
      | none =>
        have hq : S.Q = [] := List.getLast?_eq_none_iff.1 hp
        simp [sixFC, TS.fa, TS.fi, TS.hdr, hp, hq, Ne.symm hrt, ptr]
      | some p =>
        have hpt := h.tb_ne (h.sub p (hlast p hp))
        have hq : S.Q ≠ [] := fun q => by rw [q] at hp; simp at hp
        have hh : (S.Q ++ [r]).head? = S.Q.head? := by
          cases hQ : S.Q with
          | nil => exact absurd hQ hq
          | cons a l => rfl
        simp [sixFC, TS.fa, TS.fi, TS.hdr, hp, hh, Ne.symm hrt, Ne.symm hpt, ptr]
    rw [e] at hb
    exact hb
  · intro s hs
    have hb := sixF_blk (eb := S.blk r) (v4 := ptr S.blk S.Q.getLast?) (a := S.fa) (i := S.fi) (tb := S.tb) (n := (S.Q.length : Int) + 1) (h.ent s hs)
    have hst := h.tb_ne hs
    have e : sixFC (S.blk r) (ptr S.blk S.Q.getLast?) S.fa S.fi S.tb ((S.Q.length : Int) + 1) (S.blk s) (S.ent s) = TS.ent { S with Q := S.Q ++ [r] } s := by
      simp only [TS.ent, pre_snoc S.Q r s h.ndQ hr, suc_snoc S.Q r s h.ndQ hr]
      have h1 : S.blk s = S.fa ↔ S.Q.getLast? = some s := by
        unfold TS.fa
        split
        · rename_i hp; rw [hp]; simp [hst]
        · rename_i p hp
          rw [hp]
          constructor
          · intro e; rw [h.inj s hs p (h.sub p (hlast p hp)) e]
          · intro e; cases e; rfl
      by_cases hsr : s = r
      · subst hsr
        have hin : isIn s (S.Q ++ [s]) = true := isIn_yes (by simp)
        have hno : ¬ S.Q.getLast? = some s := fun q => hr (hlast s q)
        simp only [sixFC, if_true, if_neg (fun q => hno (h1.1 q)), if_neg hst, if_neg hno, hin, suc_not_mem _ _ hr]
        simp [ptr]
      · have hne := h.blk_ne hs hrK hsr
        have hq : isIn s (S.Q ++ [r]) = isIn s S.Q := by
          rw [Bool.eq_iff_iff, isIn_iff, isIn_iff]
          simp [hsr]
        by_cases hp : S.Q.getLast? = some s
        · have hi : S.fi = 5 := by simp [TS.fi, hp]
          simp only [sixFC, if_neg hne, if_pos (h1.2 hp), if_neg hst, hi, hq, if_pos hp, if_neg hsr]
          simp [ptr]
        · simp only [sixFC, if_neg hne, if_neg (fun q => hp (h1.1 q)), if_neg hst, hq, if_neg hp, if_neg hsr]
    rw [e] at hb
    exact hb
  · intro s hs
    rcases List.mem_append.1 hs with q | q
    · exact h.sub s q
    · simp at q; subst q; exact hrK
  · rcases h.map with hm | ⟨mb, D, hm, hown, hs⟩
    · exact Or.inl hm
    · refine Or.inr ⟨mb, D, hm, sixF_map hown (h.map_ne (h.ent r hrK) hm) ?_ (h.map_ne h.hdr hm), hs⟩
      rcases hfa with e | ⟨s, hs, e⟩
      · rw [e]; exact h.map_ne h.hdr hm
      · rw [← e]; exact h.map_ne (h.ent s hs) hm
  · rcases hfa with e | ⟨s, hs, e⟩
    · exact Or.inl e
    · exact Or.inr (Or.inr ⟨s, hs, e⟩)

theorem free_any {w : World} {S : TS} (h : Tok w S) (r : ByteArray) (hr : r.size ≤ maxLen) (hlen : S.Q.length ≤ 1000000) :
    Calls Try.prog 29 #[.pointer (some ⟨S.tb, 0, none⟩), .string r] w fun e w' => e = .returned (.tuple #[]) ∧ Tok w' { S with Q := freeQ S.K S.Q r } ∧ Fr S.foot w w' := by
  have hrun := h.look_ok r hr
  have hT := h.hdr
  unfold TS.hdr at hT
  by_cases hK : r ∈ S.K
  · rw [isIn_yes hK, if_pos rfl] at hrun
    have hE := h.ent r hK
    unfold TS.ent at hE
    by_cases hQ : r ∈ S.Q
    · rw [isIn_yes hQ] at hE
      refine (free_free w S.tb (S.blk r) S.mo _ _ S.Q.length S.fg r r S.fg 0 _ _ hT hE hrun).mono ?_
      rintro e w' ⟨he, rfl⟩
      have e1 : freeQ S.K S.Q r = S.Q := by simp [freeQ, isIn_yes hQ]
      rw [e1]
      exact ⟨he, h, Fr.refl _ _⟩
    · have e1 : freeQ S.K S.Q r = S.Q ++ [r] := by simp [freeQ, isIn_yes hK, isIn_no hQ]
      obtain ⟨hu, hf⟩ := h.fr hK hQ
      rw [isIn_no hQ] at hE
      rw [e1]
      cases hp : S.Q.getLast? with
      | none =>
        rw [hp] at hT
        refine (free_first w S.tb (S.blk r) S.mo _ S.Q.length S.fg r r S.fg 0 _ _ hT hE (by omega) (by omega) hrun).mono ?_
        rintro e w' ⟨he, rfl⟩
        have e2 : S.fr r w = sixF w (S.blk r) (.pointer none) S.tb 1 S.tb ((S.Q.length : Int) + 1) := by simp [TS.fr, TS.fa, TS.fi, hp, ptr]
        rw [e2] at hu hf
        exact ⟨he, hu, hf⟩
      | some p =>
        have hpQ : p ∈ S.Q := List.mem_of_getLast? hp
        have hP := h.ent p (h.sub p hpQ)
        unfold TS.ent at hP
        rw [hp] at hT
        refine (free_more w S.tb (S.blk r) (S.blk p) S.mo _ S.Q.length S.fg r r S.fg 0 _ _ p S.fg 0 _ _ _ hT hE hP (h.blk_ne (h.sub p hpQ) hK (fun e => hQ (e ▸ hpQ))) (by omega) (by omega) hrun).mono ?_
        rintro e w' ⟨he, rfl⟩
        have e2 : S.fr r w = sixF w (S.blk r) (.pointer (some ⟨S.blk p, 0, none⟩)) (S.blk p) 5 S.tb ((S.Q.length : Int) + 1) := by simp [TS.fr, TS.fa, TS.fi, hp, ptr]
        rw [e2] at hu hf
        exact ⟨he, hu, hf⟩
  · rw [isIn_no hK] at hrun
    refine (free_unknown w S.tb S.mo _ _ S.Q.length S.fg r hT (by simpa using hrun)).mono ?_
    rintro e w' ⟨he, rfl⟩
    have e1 : freeQ S.K S.Q r = S.Q := by simp [freeQ, isIn_no hK]
    rw [e1]
    exact ⟨he, h, Fr.refl _ _⟩

/-! ### hold -/
theorem says_empty (blk : ByteArray → Nat) : Says (.map []) [] blk := by
  intro s _
  rw [isIn_no (List.not_mem_nil)]
  exact ⟨rfl, rfl⟩

theorem says_put {D : DataW Unit} {K : List ByteArray} {blk : ByteArray → Nat} (hD : IsMap D) (h : Says D K blk) {r : ByteArray} (hr : r ∉ K) (b : Nat) :
    Says (D.put (kl r) (.lit (.int .i64 b))) (K ++ [r]) (fun s => if s = r then b else blk s) := by
  intro s hs
  by_cases e : s = r
  · subst e
    rw [isIn_yes (by simp), has_put_same hD (by trivial), atKey_put_same hD (by trivial)]
    simp
  · have hne : kl s ≠ kl r := fun q => e (kl_inj q)
    have hq : isIn s (K ++ [r]) = isIn s K := by
      rw [Bool.eq_iff_iff, isIn_iff, isIn_iff]
      simp [e]
    rw [hq, has_put_other hne, atKey_put_other hne, (h s hs).1, (h s hs).2]
    simp [e]

/-- The state with one name more. -/
def TS.add (S : TS) (r : ByteArray) (mb b : Nat) : TS := { S with mo := some mb, K := S.K ++ [r], blk := fun s => if s = r then b else S.blk s }

theorem ptr_add {S : TS} {r : ByteArray} {mb b : Nat} {o : Option ByteArray} (h : ∀ x, o = some x → x ≠ r) : ptr (S.add r mb b).blk o = ptr S.blk o := by
  cases o with
  | none => rfl
  | some x => simp [ptr, TS.add, h x rfl]

/-- A new entry: what is asked of the world behind. -/
theorem Tok.add {w w' : World} {S : TS} (h : Tok w S) {r : ByteArray} (hr : r.size ≤ maxLen) (hK : r ∉ S.K) {mb b : Nat} {D : DataW Unit}
    (hb : w.heap.size ≤ b)
    (hE : Blk w' b (entA r S.fg 0 false none none) 60) (hT : Blk w' S.tb ((S.hdr).setIfInBounds 0 (.map (some mb))) 45)
    (hold : ∀ s ∈ S.K, w'.heap[S.blk s]? = w.heap[S.blk s]?)
    (hown : w'.ownsMap Try.prog 9 pE mb (S.K.length + 1) D) (hs : Says D (S.K ++ [r]) (S.add r mb b).blk) : Tok w' (S.add r mb b) := by
  have hQ : r ∉ S.Q := fun q => hK (h.sub r q)
  have hQx : ∀ x, x ∈ S.Q → x ≠ r := fun x hx e => hQ (e ▸ hx)
  refine ⟨?_, ?_, ?_, nodup_snoc _ _ h.ndK hK, h.ndQ, fun s q => by simpa [TS.add] using Or.inl (h.sub s q), ?_, ?_⟩
  · have e : TS.hdr (S.add r mb b) = (S.hdr).setIfInBounds 0 (.map (some mb)) := by
      have eq : (S.add r mb b).Q = S.Q := rfl
      unfold TS.hdr
      rw [eq, ptr_add (fun x hx => hQx x (List.mem_of_mem_head? hx)), ptr_add (fun x hx => hQx x (List.mem_of_getLast? hx))]
      simp [TS.add]
    rw [e]
    exact hT
  · intro s hsK
    by_cases e : s = r
    · subst e
      have e1 : TS.ent (S.add s mb b) s = entA s S.fg 0 false none none := by
        simp [TS.ent, TS.add, isIn_no hQ, pre_not_mem _ _ hQ, suc_not_mem _ _ hQ, ptr]
      have e2 : (S.add s mb b).blk s = b := by simp [TS.add]
      rw [e1, e2]
      exact hE
    · have hs' : s ∈ S.K := by
        simp only [TS.add, List.mem_append, List.mem_singleton] at hsK
        rcases hsK with q | q
        · exact q
        · exact absurd q e
      have e1 : TS.ent (S.add r mb b) s = S.ent s := by
        have eq : (S.add r mb b).Q = S.Q := rfl
        unfold TS.ent
        rw [eq, ptr_add (fun x hx => hQx x (pre_mem _ _ _ hx).2), ptr_add (fun x hx => hQx x (suc_mem _ _ _ hx).2)]
        rfl
      have e2 : (S.add r mb b).blk s = S.blk s := by simp [TS.add, e]
      rw [e1, e2]
      exact (h.ent s hs').keep (hold s hs')
  · intro s hs1 s' hs2 e
    have hlt : ∀ x ∈ S.K, S.blk x ≠ b := fun x hx => by have := (h.ent x hx).lt; omega
    simp only [TS.add, List.mem_append, List.mem_singleton] at hs1 hs2 e
    by_cases e1 : s = r
    · by_cases e2 : s' = r
      · rw [e1, e2]
      · rw [if_pos e1, if_neg e2] at e
        exact absurd e.symm (hlt s' (hs2.resolve_right e2))
    · by_cases e2 : s' = r
      · rw [if_neg e1, if_pos e2] at e
        exact absurd e (hlt s (hs1.resolve_right e1))
      · rw [if_neg e1, if_neg e2] at e
        exact h.inj s (hs1.resolve_right e1) s' (hs2.resolve_right e2) e
  · intro s q
    simp only [TS.add, List.mem_append, List.mem_singleton] at q
    rcases q with q | q
    · exact h.small s q
    · rw [q]; exact hr
  · refine Or.inr ⟨mb, D, rfl, ?_, hs⟩
    simpa [TS.add] using hown

/-- What 'hold' leaves. -/
structure Held (w : World) (S : TS) (r : ByteArray) (w' : World) (S' : TS) : Prop where
  tok : Tok w' S'
  K : S'.K = addK S.K r
  Q : S'.Q = del S.Q r
  tb : S'.tb = S.tb
  fg : S'.fg = S.fg
  fr : Fr S.foot w w'
  foot : ∀ k, S'.foot k → S.foot k ∨ w.heap.size ≤ k

theorem hold_any {w : World} {S : TS} (h : Tok w S) (r : ByteArray) (hr : r.size ≤ maxLen) (hlen : S.Q.length ≤ 1000000) (hlenK : S.K.length ≤ 1000000) :
    Calls Try.prog 30 #[.pointer (some ⟨S.tb, 0, none⟩), .string r] w fun e w' => ∃ S', e = .returned (.pointer (some ⟨S'.blk r, 0, none⟩)) ∧ Held w S r w' S' := by
  have hrun := h.look_ok r hr
  have hT := h.hdr
  unfold TS.hdr at hT
  by_cases hK : r ∈ S.K
  · rw [isIn_yes hK, if_pos rfl] at hrun
    have eK : addK S.K r = S.K := by simp [addK, isIn_yes hK]
    have hE := h.ent r hK
    unfold TS.ent at hE
    by_cases hQ : r ∈ S.Q
    · rw [isIn_yes hQ] at hE
      refine (hold_free w S.tb (S.blk r) S.mo _ _ S.Q.length S.fg r r S.fg 0 _ _ (fun w' => Tok w' { S with Q := del S.Q r } ∧ Fr S.foot w w') hT hE hrun (unlink_any h hQ hlen)).mono ?_
      rintro e w' ⟨he, hu, hf⟩
      exact ⟨{ S with Q := del S.Q r }, he, hu, eK.symm, rfl, rfl, rfl, hf, fun k hk => Or.inl hk⟩
    · rw [isIn_no hQ] at hE
      refine (hold_held w S.tb (S.blk r) S.mo _ _ S.Q.length S.fg r r S.fg 0 _ _ hT hE hrun).mono ?_
      rintro e w' ⟨he, rfl⟩
      exact ⟨S, he, h, eK.symm, (del_not_mem hQ).symm, rfl, rfl, Fr.refl _ _, fun k hk => Or.inl hk⟩
  · have hQ : r ∉ S.Q := fun q => hK (h.sub r q)
    have eK : addK S.K r = S.K ++ [r] := by simp [addK, isIn_no hK]
    rw [isIn_no hK] at hrun
    rcases h.map with ⟨hm, hK0⟩ | ⟨mb, D, hm, hown, hs⟩
    · rw [hm] at hT hrun
      refine (hold_new_none w S.tb _ _ S.Q.length S.fg r hT hr (by simpa using hrun)).mono ?_
      rintro e w' ⟨he, hown, hg⟩
      have hlt := h.hdr.lt
      have fr1 : Fr S.foot w (((w.setCell ⟨S.tb, 0, none⟩ (.map (some w.heap.size))).alloc (.map #[] 0)).alloc (.cells (entA r S.fg 0 false none none) 60)) :=
        (((Fr.refl _ _).set (p := ⟨S.tb, 0, none⟩) (Or.inl rfl) _).alloc _).alloc _
      have hfr : Fr S.foot w w' := fr1.grown hg (fun k e => by cases e; exact Or.inr (Nat.le_refl _))
      refine ⟨S.add r w.heap.size (w.heap.size + 1), ?_, ?_, ?_, ?_, rfl, rfl, hfr, ?_⟩
      · simpa [TS.add] using he
      · refine h.add hr hK (Nat.le_succ _) ?_ ?_ ?_ (by simpa [hK0] using hown) ?_
        · refine Blk.keep ?_ (hg.block (w.heap.size + 1) (by simp) (by simp))
          have := Blk.made ((w.setCell ⟨S.tb, 0, none⟩ (.map (some w.heap.size))).alloc (.map #[] 0)) (entA r S.fg 0 false none none) 60
          simpa using this
        · refine Blk.keep ?_ (hg.block S.tb (by simp; omega) (by simp; omega))
          exact ((h.hdr.set 0 (.map (some w.heap.size))).alloc _).alloc _
        · intro s hs; rw [hK0] at hs; cases hs
        · rw [hK0]
          exact says_put ⟨[], rfl⟩ (says_empty S.blk) (List.not_mem_nil) _
      · exact eK.symm
      · exact (del_not_mem hQ).symm
      · rintro k (rfl | hm' | ⟨s, hs, rfl⟩)
        · exact Or.inl (Or.inl rfl)
        · simp [TS.add] at hm'; subst hm'; exact Or.inr (Nat.le_refl _)
        · by_cases e : s = r
          · subst e
            right; simp [TS.add]
          · have hs' : s ∈ S.K := by
              simp only [TS.add, List.mem_append, List.mem_singleton] at hs
              exact hs.resolve_right e
            exact Or.inl (Or.inr (Or.inr ⟨s, hs', by simp [TS.add, e]⟩))
    · rw [hm] at hT hrun
      refine (hold_new_some w S.tb mb _ _ S.Q.length S.fg r S.K.length D hT hown (by unfold maxLen; omega) hr (by simpa using hrun)).mono ?_
      rintro e w' ⟨he, hown1, hg⟩
      have hlt := h.hdr.lt
      have hmt := h.map_ne h.hdr hm
      have hfr : Fr S.foot w w' := ((Fr.refl S.foot w).alloc _).grown hg (fun k e => by cases e; exact Or.inl (Or.inr (Or.inl hm)))
      refine ⟨S.add r mb w.heap.size, ?_, ?_, ?_, ?_, rfl, rfl, hfr, ?_⟩
      · simpa [TS.add] using he
      · refine h.add hr hK (Nat.le_refl _) ?_ ?_ ?_ hown1 ?_
        · exact Blk.keep (Blk.made w (entA r S.fg 0 false none none) 60) (hg.block w.heap.size (by simp) (by have := hown.lt; simp; omega))
        · have e1 : (S.hdr).setIfInBounds 0 (.map (some mb)) = S.hdr := by simp [TS.hdr, hm]
          rw [e1]
          exact Blk.keep (h.hdr.alloc _) (hg.block S.tb (by simp; omega) (by simp; exact fun e => hmt e.symm))
        · intro s hs
          have hl := (h.ent s hs).lt
          have hne := h.map_ne (h.ent s hs) hm
          rw [hg.block (S.blk s) (by simp; omega) (by simp; exact fun e => hne e.symm), Below.heap_alloc _ _ _ hl]
        · exact says_put hown.isMap hs hK _
      · exact eK.symm
      · exact (del_not_mem hQ).symm
      · rintro k (rfl | hm' | ⟨s, hs, rfl⟩)
        · exact Or.inl (Or.inl rfl)
        · simp [TS.add] at hm'; subst hm'; exact Or.inl (Or.inr (Or.inl hm))
        · by_cases e : s = r
          · subst e
            right; simp [TS.add]
          · have hs' : s ∈ S.K := by
              simp only [TS.add, List.mem_append, List.mem_singleton] at hs
              exact hs.resolve_right e
            exact Or.inl (Or.inr (Or.inr ⟨s, hs', by simp [TS.add, e]⟩))

end Go.Proofs.Qxb6000035a
