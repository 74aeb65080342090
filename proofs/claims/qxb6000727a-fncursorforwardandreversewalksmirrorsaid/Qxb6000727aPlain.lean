/-
  PLAIN: byte strings as lists of numbers, their order (bytes.Compare), the keys' encoding (zzEnc) and that the order of keys is the order of numbers. Nothing of Go here.
-/
set_option linter.unusedSimpArgs false
set_option linter.unusedVariables false
namespace Go.Proofs.Qxb6000727a

def cmpL : List Int → List Int → Int
  | [], [] => 0
  | [], _ :: _ => -1
  | _ :: _, [] => 1
  | x :: xs, y :: ys => if x < y then -1 else if y < x then 1 else cmpL xs ys

def enc (v : Int) : List Int :=
  if v % 256 = 0 then
    if v / 256 % 256 = 0 then
      if v / 65536 % 256 = 0 then
        if v / 16777216 = 0 then [] else [v / 16777216]
      else [v / 16777216, v / 65536 % 256]
    else [v / 16777216, v / 65536 % 256, v / 256 % 256]
  else [v / 16777216, v / 65536 % 256, v / 256 % 256, v % 256]

/-- The five shapes of a key. -/
theorem enc_cases (v : Int) (h0 : 0 ≤ v) (h1 : v ≤ 4294967295) :
    (enc v = [] ∧ v = 0) ∨ (∃ a, enc v = [a] ∧ 0 < a ∧ v = a * 16777216) ∨
    (∃ a b, enc v = [a, b] ∧ 0 ≤ a ∧ 0 < b ∧ b < 256 ∧ v = a * 16777216 + b * 65536) ∨
    (∃ a b c, enc v = [a, b, c] ∧ 0 ≤ a ∧ 0 ≤ b ∧ b < 256 ∧ 0 < c ∧ c < 256 ∧ v = a * 16777216 + b * 65536 + c * 256) ∨
    (∃ a b c d, enc v = [a, b, c, d] ∧ 0 ≤ a ∧ 0 ≤ b ∧ b < 256 ∧ 0 ≤ c ∧ c < 256 ∧ 0 < d ∧ d < 256 ∧ v = a * 16777216 + b * 65536 + c * 256 + d) := by
  unfold enc
  by_cases e3 : v % 256 = 0
  · rw [if_pos e3]
    by_cases e2 : v / 256 % 256 = 0
    · rw [if_pos e2]
      by_cases e1 : v / 65536 % 256 = 0
      · rw [if_pos e1]
        by_cases e0 : v / 16777216 = 0
        · rw [if_pos e0]
          exact Or.inl ⟨rfl, by omega⟩
        · rw [if_neg e0]
          exact Or.inr (Or.inl ⟨_, rfl, by omega, by omega⟩)
      · rw [if_neg e1]
        exact Or.inr (Or.inr (Or.inl ⟨_, _, rfl, by omega, by omega, by omega, by omega⟩))
    · rw [if_neg e2]
      exact Or.inr (Or.inr (Or.inr (Or.inl ⟨_, _, _, rfl, by omega, by omega, by omega, by omega, by omega, by omega⟩)))
  · rw [if_neg e3]
    exact Or.inr (Or.inr (Or.inr (Or.inr ⟨_, _, _, _, rfl, by omega, by omega, by omega, by omega, by omega, by omega, by omega, by omega⟩)))

/-- Every number of a key is a byte. -/
theorem enc_byte (v : Int) (h0 : 0 ≤ v) (h1 : v ≤ 4294967295) : ∀ x ∈ enc v, 0 ≤ x ∧ x < 256 := by
  intro x hx
  unfold enc at hx
  split at hx
  · split at hx
    · split at hx
      · split at hx
        · cases hx
        · simp at hx; subst hx; omega
      · simp at hx; rcases hx with rfl | rfl <;> omega
    · simp at hx; rcases hx with rfl | rfl | rfl <;> omega
  · simp at hx; rcases hx with rfl | rfl | rfl | rfl <;> omega

theorem enc_len (v : Int) : (enc v).length ≤ 4 := by
  unfold enc
  repeat' split
  all_goals simp

theorem cmp_cons (x y : Int) (xs ys : List Int) : cmpL (x :: xs) (y :: ys) = if x < y then -1 else if y < x then 1 else cmpL xs ys := rfl

/-- THE ORDER OF KEYS IS THE ORDER OF NUMBERS. -/
theorem cmp_enc (u v : Int) (hu0 : 0 ≤ u) (hu1 : u ≤ 4294967295) (hv0 : 0 ≤ v) (hv1 : v ≤ 4294967295) :
    (u < v ∧ cmpL (enc u) (enc v) = -1) ∨ (u = v ∧ cmpL (enc u) (enc v) = 0) ∨ (v < u ∧ cmpL (enc u) (enc v) = 1) := by
  rcases enc_cases u hu0 hu1 with ⟨e, hu⟩ | ⟨a, e, ha, hu⟩ | ⟨a, b, e, ha, hb, hb2, hu⟩ | ⟨a, b, c, e, ha, hb, hb2, hc, hc2, hu⟩ | ⟨a, b, c, d, e, ha, hb, hb2, hc, hc2, hd, hd2, hu⟩ <;>
  rcases enc_cases v hv0 hv1 with ⟨f, hv⟩ | ⟨a', f, ha', hv⟩ | ⟨a', b', f, ha', hb', hb2', hv⟩ | ⟨a', b', c', f, ha', hb', hb2', hc', hc2', hv⟩ | ⟨a', b', c', d', f, ha', hb', hb2', hc', hc2', hd', hd2', hv⟩ <;>
  rw [e, f] <;> simp only [cmpL] <;> (repeat' split) <;> first | omega | (simp; omega)

theorem cmp_lt (u v : Int) (hu0 : 0 ≤ u) (hu1 : u ≤ 4294967295) (hv0 : 0 ≤ v) (hv1 : v ≤ 4294967295) : cmpL (enc u) (enc v) < 0 ↔ u < v := by
  rcases cmp_enc u v hu0 hu1 hv0 hv1 with ⟨h, e⟩ | ⟨h, e⟩ | ⟨h, e⟩ <;> rw [e] <;> omega
theorem cmp_le (u v : Int) (hu0 : 0 ≤ u) (hu1 : u ≤ 4294967295) (hv0 : 0 ≤ v) (hv1 : v ≤ 4294967295) : cmpL (enc u) (enc v) ≤ 0 ↔ u ≤ v := by
  rcases cmp_enc u v hu0 hu1 hv0 hv1 with ⟨h, e⟩ | ⟨h, e⟩ | ⟨h, e⟩ <;> rw [e] <;> omega

theorem cmp_range : ∀ (xs ys : List Int), -1 ≤ cmpL xs ys ∧ cmpL xs ys ≤ 1
  | [], [] => by simp [cmpL]
  | [], _ :: _ => by simp [cmpL]
  | _ :: _, [] => by simp [cmpL]
  | x :: xs, y :: ys => by
    simp only [cmpL]
    have := cmp_range xs ys
    split
    · omega
    · split <;> omega

/-- The greatest key of the walk backwards. -/
theorem cmp_ff (u : Int) (hu0 : 0 ≤ u) (hu1 : u ≤ 4294967295) : cmpL (enc u) [255, 255, 255, 255, 255] ≤ 0 := by
  rcases enc_cases u hu0 hu1 with ⟨e, hu⟩ | ⟨a, e, ha, hu⟩ | ⟨a, b, e, ha, hb, hb2, hu⟩ | ⟨a, b, c, e, ha, hb, hb2, hc, hc2, hu⟩ | ⟨a, b, c, d, e, ha, hb, hb2, hc, hc2, hd, hd2, hu⟩ <;>
  rw [e] <;> simp only [cmpL] <;> (repeat' split) <;> omega

end Go.Proofs.Qxb6000727a
