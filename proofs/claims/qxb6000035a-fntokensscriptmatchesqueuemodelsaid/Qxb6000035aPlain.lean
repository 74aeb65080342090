/-
  PLAIN LISTS: the free queue as a list of names: who stands just before and just after whom; what an append at the end and a removal do to that. Nothing of Go here.
-/
set_option linter.unusedSimpArgs false
set_option linter.unusedVariables false
namespace Go.Proofs.Qxb6000035a

variable {α : Type} [DecidableEq α]

def pre : List α → α → Option α
  | a :: b :: l, x => if x = b then some a else pre (b :: l) x
  | _, _ => none

def suc : List α → α → Option α
  | a :: b :: l, x => if x = a then some b else suc (b :: l) x
  | _, _ => none

theorem pre_not_mem : ∀ (l : List α) (x : α), x ∉ l → pre l x = none
  | [], _, _ => rfl
  | [_], _, _ => rfl
  | a :: b :: l, x, h => by
    simp only [pre]
    have h1 : x ≠ b := fun e => h (by simp [e])
    rw [if_neg h1]
    exact pre_not_mem (b :: l) x (fun e => h (List.mem_cons_of_mem _ e))

theorem suc_not_mem : ∀ (l : List α) (x : α), x ∉ l → suc l x = none
  | [], _, _ => rfl
  | [_], _, _ => rfl
  | a :: b :: l, x, h => by
    simp only [suc]
    have h1 : x ≠ a := fun e => h (by simp [e])
    rw [if_neg h1]
    exact suc_not_mem (b :: l) x (fun e => h (List.mem_cons_of_mem _ e))

theorem pre_head (a : α) (l : List α) (h : a ∉ l) : pre (a :: l) a = none := by
  cases l with
  | nil => rfl
  | cons b l =>
    simp only [pre]
    rw [if_neg (fun e => h (by simp [e]))]
    exact pre_not_mem _ _ h

theorem pre_append : ∀ (A B : List α) (x : α), (A ++ B).Nodup →
    pre (A ++ B) x = if B.head? = some x then A.getLast? else if x ∈ A then pre A x else pre B x
  | [], B, x, h => by
    cases B with
    | nil => simp
    | cons b B =>
      simp only [List.nil_append, List.head?_cons, Option.some.injEq, List.getLast?_nil, List.not_mem_nil, if_false]
      split
      · rename_i e
        subst e
        exact pre_head _ _ (List.nodup_cons.1 h).1
      · rfl
  | [a], B, x, h => by
    cases B with
    | nil => simp [pre]
    | cons b B =>
      simp only [List.cons_append, List.nil_append, pre, List.head?_cons, Option.some.injEq, List.getLast?_singleton, List.mem_singleton]
      by_cases e : x = b
      · rw [if_pos e, if_pos e.symm]
      · rw [if_neg e, if_neg (fun q => e q.symm)]
        split
        · rename_i e2
          subst e2
          exact pre_not_mem _ _ (List.nodup_cons.1 h).1
        · rfl
  | a :: a' :: A, B, x, h => by
    have ih := pre_append (a' :: A) B x (List.nodup_cons.1 h).2
    simp only [List.cons_append] at ih ⊢
    simp only [pre]
    rw [ih]
    by_cases hb : B.head? = some x
    · rw [if_pos hb, if_pos hb]
      have hx : x ∈ B := List.mem_of_mem_head? hb
      have hne : x ≠ a' := fun e => by
        have h2 := (List.nodup_cons.1 (List.nodup_cons.1 h).2).1
        exact h2 (by simp [← e, hx])
      rw [if_neg hne]
      simp
    · rw [if_neg hb, if_neg hb]
      by_cases e : x = a'
      · simp [e, pre]
      · rw [if_neg e]
        by_cases hA : x ∈ a' :: A
        · rw [if_pos hA, if_pos (List.mem_cons_of_mem _ hA), if_neg e]
        · rw [if_neg hA]
          by_cases e3 : x = a
          · subst e3
            rw [if_pos (by simp)]
            rw [if_neg e, pre_not_mem _ _ hA]
            have h2 := (List.nodup_cons.1 h).1
            exact pre_not_mem _ _ (fun q => h2 (by simp [q]))
          · rw [if_neg (by simp at hA ⊢; exact ⟨e3, hA⟩)]

theorem suc_append : ∀ (A B : List α) (x : α), (A ++ B).Nodup →
    suc (A ++ B) x = if A.getLast? = some x then B.head? else if x ∈ A then suc A x else suc B x
  | [], B, x, _ => by simp
  | [a], B, x, h => by
    cases B with
    | nil => simp [suc]
    | cons b B =>
      simp only [List.cons_append, List.nil_append, suc, List.head?_cons, Option.some.injEq, List.getLast?_singleton, List.mem_singleton]
      by_cases e : x = a
      · rw [if_pos e, if_pos e.symm]
      · rw [if_neg e, if_neg (fun q => e q.symm), if_neg e]
  | a :: a' :: A, B, x, h => by
    have ih := suc_append (a' :: A) B x (List.nodup_cons.1 h).2
    simp only [List.cons_append] at ih ⊢
    simp only [suc]
    rw [ih]
    have hl : (a :: a' :: A).getLast? = (a' :: A).getLast? := by simp
    rw [hl]
    by_cases e : x = a
    · subst e
      have h2 : x ∉ a' :: A := fun q => (List.nodup_cons.1 h).1 (by simp at q ⊢; rcases q with q | q <;> simp [q])
      rw [if_pos rfl, if_neg (fun q => h2 (List.mem_of_getLast? q)), if_pos (by simp)]
      simp
    · rw [if_neg e]
      by_cases hg : (a' :: A).getLast? = some x
      · rw [if_pos hg, if_pos hg]
      · rw [if_neg hg, if_neg hg]
        by_cases hA : x ∈ a' :: A
        · rw [if_pos hA, if_pos (List.mem_cons_of_mem _ hA), if_neg e]
        · rw [if_neg hA, if_neg (by simp at hA ⊢; exact ⟨e, hA⟩)]

/-! ### an append at the end -/
theorem pre_snoc (Q : List α) (r x : α) (h : Q.Nodup) (hr : r ∉ Q) : pre (Q ++ [r]) x = if x = r then Q.getLast? else pre Q x := by
  have hn : (Q ++ [r]).Nodup := by
    rw [List.nodup_append]
    exact ⟨h, by simp, fun a ha b hb => by simp at hb; subst hb; exact fun e => hr (e ▸ ha)⟩
  rw [pre_append Q [r] x hn]
  by_cases e : x = r
  · simp [e]
  · rw [if_neg (by simp; exact fun q => e q.symm), if_neg e]
    by_cases hx : x ∈ Q
    · rw [if_pos hx]
    · rw [if_neg hx, pre_not_mem _ _ hx]; rfl

theorem suc_snoc (Q : List α) (r x : α) (h : Q.Nodup) (hr : r ∉ Q) : suc (Q ++ [r]) x = if Q.getLast? = some x then some r else suc Q x := by
  have hn : (Q ++ [r]).Nodup := by
    rw [List.nodup_append]
    exact ⟨h, by simp, fun a ha b hb => by simp at hb; subst hb; exact fun e => hr (e ▸ ha)⟩
  rw [suc_append Q [r] x hn]
  by_cases e : Q.getLast? = some x
  · rw [if_pos e, if_pos e]; rfl
  · rw [if_neg e, if_neg e]
    by_cases hx : x ∈ Q
    · rw [if_pos hx]
    · rw [if_neg hx, suc_not_mem _ _ hx]; rfl

theorem nodup_snoc {β : Type} (Q : List β) (r : β) (h : Q.Nodup) (hr : r ∉ Q) : (Q ++ [r]).Nodup := by
  rw [List.nodup_append]
  exact ⟨h, by simp, fun a ha b hb => by simp at hb; subst hb; exact fun e => hr (e ▸ ha)⟩

/-! ### a removal -/
theorem part (Q : List α) (r : α) (h : Q.Nodup) (hr : r ∈ Q) : ∃ A B, Q = A ++ r :: B ∧ Q.erase r = A ++ B ∧ r ∉ A ∧ r ∉ B ∧ pre Q r = A.getLast? ∧ suc Q r = B.head? := by
  obtain ⟨A, B, rfl⟩ := List.append_of_mem hr
  have hA : r ∉ A := fun q => by
    rw [List.nodup_append] at h
    exact h.2.2 r q r (by simp) rfl
  have hB : r ∉ B := fun q => by
    rw [List.nodup_append] at h
    exact (List.nodup_cons.1 h.2.1).1 q
  refine ⟨A, B, rfl, ?_, hA, hB, ?_, ?_⟩
  · rw [List.erase_append_right _ hA]; simp
  · rw [pre_append A (r :: B) r h]; simp
  · rw [suc_append A (r :: B) r h, if_neg (fun q => hA (List.mem_of_getLast? q)), if_neg hA]
    cases B with
    | nil => rfl
    | cons b B => simp [suc]

theorem head_erase (Q : List α) (r : α) (h : Q.Nodup) (hr : r ∈ Q) : (Q.erase r).head? = if pre Q r = none then suc Q r else Q.head? := by
  obtain ⟨A, B, e1, e2, hA, hB, e3, e4⟩ := part Q r h hr
  rw [e2, e3, e4, e1]
  cases A with
  | nil => simp
  | cons a A => simp

theorem last_erase (Q : List α) (r : α) (h : Q.Nodup) (hr : r ∈ Q) : (Q.erase r).getLast? = if suc Q r = none then pre Q r else Q.getLast? := by
  obtain ⟨A, B, e1, e2, hA, hB, e3, e4⟩ := part Q r h hr
  rw [e2, e3, e4, e1]
  cases B with
  | nil => simp
  | cons b B => simp [List.getLast?_append, List.getLast?_cons]

theorem pre_erase (Q : List α) (r x : α) (h : Q.Nodup) (hr : r ∈ Q) : pre (Q.erase r) x = if x = r then none else if suc Q r = some x then pre Q r else pre Q x := by
  obtain ⟨A, B, e1, e2, hA, hB, e3, e4⟩ := part Q r h hr
  have hn : (A ++ B).Nodup := by rw [← e2]; exact h.erase r
  have h' : (A ++ r :: B).Nodup := by rw [← e1]; exact h
  rw [e3, e4, e2, e1, pre_append A B x hn]
  by_cases e : x = r
  · have hne : ¬ B.head? = some r := fun q => hB (List.mem_of_mem_head? q)
    rw [if_pos e, e, if_neg hne, if_neg hA, pre_not_mem _ _ hB]
  · rw [if_neg e, pre_append A (r :: B) x h']
    by_cases hb : B.head? = some x
    · rw [if_pos hb, if_pos hb]
    · have hr2 : ¬ (r :: B).head? = some x := by simp; exact fun q => e q.symm
      rw [if_neg hb, if_neg hb, if_neg hr2]
      by_cases hx : x ∈ A
      · rw [if_pos hx, if_pos hx]
      · rw [if_neg hx, if_neg hx]
        cases B with
        | nil => rfl
        | cons b B => simp only [pre]; rw [if_neg (fun q => hb (by simp [q]))]

theorem suc_erase (Q : List α) (r x : α) (h : Q.Nodup) (hr : r ∈ Q) : suc (Q.erase r) x = if x = r then none else if pre Q r = some x then suc Q r else suc Q x := by
  obtain ⟨A, B, e1, e2, hA, hB, e3, e4⟩ := part Q r h hr
  have hn : (A ++ B).Nodup := by rw [← e2]; exact h.erase r
  have h' : (A ++ r :: B).Nodup := by rw [← e1]; exact h
  rw [e3, e4, e2, e1, suc_append A B x hn]
  by_cases e : x = r
  · rw [if_pos e, e, if_neg (fun q => hA (List.mem_of_getLast? q)), if_neg hA, suc_not_mem _ _ hB]
  · rw [if_neg e, suc_append A (r :: B) x h']
    by_cases hb : A.getLast? = some x
    · rw [if_pos hb, if_pos hb]
    · rw [if_neg hb, if_neg hb, if_neg hb]
      by_cases hx : x ∈ A
      · rw [if_pos hx, if_pos hx]
      · rw [if_neg hx, if_neg hx]
        cases B with
        | nil => rfl
        | cons b B => simp only [suc]; rw [if_neg e]

theorem pre_mem (Q : List α) (x y : α) : pre Q x = some y → x ∈ Q ∧ y ∈ Q := by
  induction Q with
  | nil => intro h; simp [pre] at h
  | cons a Q ih =>
    cases Q with
    | nil => intro h; simp [pre] at h
    | cons b Q =>
      intro h
      simp only [pre] at h
      split at h
      · rename_i e; cases h; simp [e]
      · have := ih h; exact ⟨List.mem_cons_of_mem _ this.1, List.mem_cons_of_mem _ this.2⟩

theorem suc_mem (Q : List α) (x y : α) : suc Q x = some y → x ∈ Q ∧ y ∈ Q := by
  induction Q with
  | nil => intro h; simp [suc] at h
  | cons a Q ih =>
    cases Q with
    | nil => intro h; simp [suc] at h
    | cons b Q =>
      intro h
      simp only [suc] at h
      split at h
      · rename_i e; cases h; simp [e]
      · have := ih h; exact ⟨List.mem_cons_of_mem _ this.1, List.mem_cons_of_mem _ this.2⟩

theorem pre_ne (Q : List α) (x y : α) (h : Q.Nodup) (e : pre Q x = some y) : y ≠ x := by
  rintro rfl
  have hx := (pre_mem Q y y e).1
  obtain ⟨A, B, _, _, hA, _, e3, _⟩ := part Q y h hx
  rw [e3] at e
  exact hA (List.mem_of_getLast? e)

theorem suc_ne (Q : List α) (x y : α) (h : Q.Nodup) (e : suc Q x = some y) : y ≠ x := by
  rintro rfl
  have hx := (suc_mem Q y y e).1
  obtain ⟨A, B, _, _, _, hB, _, e4⟩ := part Q y h hx
  rw [e4] at e
  exact hB (List.mem_of_mem_head? e)

theorem pre_suc_ne (Q : List α) (x y z : α) (h : Q.Nodup) (e : pre Q x = some y) (e' : suc Q x = some z) : y ≠ z := by
  have hx := (pre_mem Q x y e).1
  obtain ⟨A, B, e1, _, _, _, e3, e4⟩ := part Q x h hx
  rw [e3] at e
  rw [e4] at e'
  rintro rfl
  rw [e1, List.nodup_append] at h
  exact h.2.2 y (List.mem_of_getLast? e) y (List.mem_cons_of_mem _ (List.mem_of_mem_head? e')) rfl

/-- By place: just before and just after the k-th. -/
theorem pre_at (Q : List α) (h : Q.Nodup) (k : Nat) (hk : k < Q.length) : pre Q Q[k] = if k = 0 then none else Q[k - 1]? := by
  have e : Q = Q.take k ++ Q[k] :: Q.drop (k + 1) := by rw [← List.drop_eq_getElem_cons hk]; simp
  have h' : (Q.take k ++ Q[k] :: Q.drop (k + 1)).Nodup := by rw [← e]; exact h
  have := pre_append (Q.take k) (Q[k] :: Q.drop (k + 1)) Q[k] h'
  rw [← e] at this
  rw [this, if_pos (by simp)]
  by_cases h0 : k = 0
  · subst h0; simp
  · rw [if_neg h0, List.getLast?_eq_getElem?]
    simp only [List.length_take, List.getElem?_take]
    rw [show min k Q.length - 1 = k - 1 by omega, if_pos (by omega)]

theorem suc_at (Q : List α) (h : Q.Nodup) (k : Nat) (hk : k < Q.length) : suc Q Q[k] = Q[k + 1]? := by
  have e : Q = Q.take k ++ Q[k] :: Q.drop (k + 1) := by rw [← List.drop_eq_getElem_cons hk]; simp
  have h' : (Q.take k ++ Q[k] :: Q.drop (k + 1)).Nodup := by rw [← e]; exact h
  have hA : Q[k] ∉ Q.take k := fun q => by rw [List.nodup_append] at h'; exact h'.2.2 _ q _ (List.mem_cons_self ..) rfl
  have hB : Q[k] ∉ Q.drop (k + 1) := fun q => by rw [List.nodup_append] at h'; exact (List.nodup_cons.1 h'.2.1).1 q
  have := suc_append (Q.take k) (Q[k] :: Q.drop (k + 1)) Q[k] h'
  rw [← e] at this
  rw [this, if_neg (fun q => hA (List.mem_of_getLast? q)), if_neg hA]
  have e2 : suc (Q[k] :: Q.drop (k + 1)) Q[k] = (Q.drop (k + 1)).head? := by
    cases hd : Q.drop (k + 1) with
    | nil => rfl
    | cons b B => simp [suc]
  rw [e2, List.head?_drop]


/-! ### membership and removal under names of their own (ByteArray's own '==' is not the one that 'DecidableEq' gives) -/
def isIn (x : α) (Q : List α) : Bool := decide (x ∈ Q)
def del (Q : List α) (r : α) : List α := Q.erase r
theorem isIn_iff (x : α) (Q : List α) : isIn x Q = true ↔ x ∈ Q := by simp [isIn]
theorem isIn_not (x : α) (Q : List α) : isIn x Q = false ↔ x ∉ Q := by simp [isIn]
theorem isIn_yes {x : α} {Q : List α} (h : x ∈ Q) : isIn x Q = true := (isIn_iff x Q).2 h
theorem isIn_no {x : α} {Q : List α} (h : x ∉ Q) : isIn x Q = false := (isIn_not x Q).2 h
theorem del_not_mem {Q : List α} {r : α} (h : r ∉ Q) : del Q r = Q := List.erase_of_not_mem h
theorem mem_del {Q : List α} (hn : Q.Nodup) {r x : α} : x ∈ del Q r ↔ x ≠ r ∧ x ∈ Q := by
  unfold del; rw [hn.mem_erase_iff]
theorem del_nodup {Q : List α} (hn : Q.Nodup) (r : α) : (del Q r).Nodup := hn.erase r
theorem del_length {Q : List α} {r : α} (h : r ∈ Q) : (del Q r).length = Q.length - 1 := List.length_erase_of_mem h
theorem del_len (Q : List α) (r : α) : (del Q r).length ≤ Q.length := List.length_erase_le
theorem head_del (Q : List α) (r : α) (h : Q.Nodup) (hr : r ∈ Q) : (del Q r).head? = if pre Q r = none then suc Q r else Q.head? := head_erase Q r h hr
theorem last_del (Q : List α) (r : α) (h : Q.Nodup) (hr : r ∈ Q) : (del Q r).getLast? = if suc Q r = none then pre Q r else Q.getLast? := last_erase Q r h hr
theorem pre_del (Q : List α) (r x : α) (h : Q.Nodup) (hr : r ∈ Q) : pre (del Q r) x = if x = r then none else if suc Q r = some x then pre Q r else pre Q x := pre_erase Q r x h hr
theorem suc_del (Q : List α) (r x : α) (h : Q.Nodup) (hr : r ∈ Q) : suc (del Q r) x = if x = r then none else if pre Q r = some x then suc Q r else suc Q x := suc_erase Q r x h hr

end Go.Proofs.Qxb6000035a
