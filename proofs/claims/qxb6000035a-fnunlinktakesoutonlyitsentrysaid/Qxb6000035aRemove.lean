/-
  zzRemoveAt (16): a fresh slice without the j-th name.
-/
import Derived.Test.Qxb6000035aWalk
set_option linter.unusedSimpArgs false
set_option linter.unusedVariables false
namespace Go.Proofs.Qxb6000035a
open Go.RowKit

theorem run_make_cap {P : Program} {t e : TypeId} {z : Value} {by_ : Nat} (ht : P.underlying t = some (.slice e)) (hi : (P.info? e).map (fun i => (i.zero, i.size, i.bytes)) = some (some z, 1, by_)) (n : Nat) (hb : by_ * n ≤ 281474976710656) (h63 : n ≤ 9223372036854775807) (w : World) :
    (Instr.makeSlice t (.int .i64 0) (.int .i64 (n : Int))).run P w = .ok (.slice (some ⟨w.heap.size, 0, none⟩) 0 n) (w.alloc (.cells (fresh z n) e)) := by
  obtain ⟨i, hi, hz, hs, hby⟩ := info_parts hi
  have h := run_make (P := P) w t e i z ht hi hz .i64 .i64 0 n (by omega) (by omega) (by rw [hby, ← Int.natCast_mul]; omega) (by omega)
  rw [h]
  simp [fresh, hs]

def rem (xs : List ByteArray) (j k : Nat) : List ByteArray := (xs.take k).eraseIdx j
theorem rem_len (xs : List ByteArray) (j k : Nat) : (rem xs j k).length ≤ k := by
  unfold rem
  have := List.length_eraseIdx_le (l := xs.take k) (i := j)
  have h2 := List.length_take_le k xs
  omega
theorem rem_hit (xs : List ByteArray) (j : Nat) (h : j < xs.length) : rem xs j (j + 1) = rem xs j j := by
  unfold rem
  rw [List.take_succ_eq_append_getElem h, List.eraseIdx_of_length_le (l := xs.take j) (by simp; omega)]
  rw [List.eraseIdx_append_of_length_le (by simp; omega)]
  simp [Nat.min_eq_left (Nat.le_of_lt h)]
theorem rem_miss (xs : List ByteArray) (j k : Nat) (h : k < xs.length) (hne : k ≠ j) : rem xs j (k + 1) = rem xs j k ++ [xs[k]] := by
  unfold rem
  rw [List.take_succ_eq_append_getElem h]
  by_cases hjk : j < k
  · rw [List.eraseIdx_append_of_lt_length (by simp; omega)]
  · rw [List.eraseIdx_of_length_le (by simp; omega), List.eraseIdx_of_length_le (by simp; omega)]
theorem rem_all (xs : List ByteArray) (j : Nat) : rem xs j xs.length = xs.eraseIdx j := by simp [rem]

/-- A fresh owned slice. -/
def Made (w : World) (xs : List ByteArray) (e : Ending) (w' : World) : Prop := ∃ v, e = .returned v ∧ w'.ownsRow w.heap.size 9 1 v xs.length (strs xs) ∧ Below w.heap.size w w'
theorem Made.mk {w w' : World} {xs : List ByteArray} {v : Value} (h : w'.ownsRow w.heap.size 9 1 v xs.length (strs xs)) (hb : Below w.heap.size w w') : Made w xs (.returned v) w' := ⟨v, rfl, h, hb⟩

set_option maxHeartbeats 1000000 in
theorem removeAt_any (a : Option Addr) (n c j : Nat) (xs : List ByteArray) (w : World) (hr : RowV w a n (strAt xs)) (hl : xs.length = n) (hn : n ≤ 1000000) :
    Calls Try.prog 16 #[.slice a n c, .int .i64 (j : Int)] w (Made w (xs.eraseIdx j)) := by
  obtain ⟨i0, hi, hz0, hz1, hz2⟩ := info_parts Try.info9
  have hmk := run_make_cap (P := Try.prog) (t := 23) (e := 9) Try.underlying23 Try.info9 n (by omega) (by omega)
  have HL := hide hl
  clear hl
  go_enter Try.func16, Try.ntmps16
  go_wp2
  go_loopw [5, 6] (fun v i wr => ∃ k : Nat, k ≤ n ∧ i = .int .i64 k ∧ v = .slice (some ⟨w.heap.size, 0, none⟩) (rem xs j k).length n ∧
      wr.ownsRow w.heap.size 9 1 (.slice (some ⟨w.heap.size, 0, none⟩) (rem xs j k).length n) (rem xs j k).length (strs (rem xs j k)) ∧ Below w.heap.size w wr) (fun _ i _ => n - (intOf i).toNat)
  case atStart =>
    have e0 : rem xs j 0 = [] := by simp [rem]
    refine ⟨0, Nat.zero_le _, rfl, by rw [e0]; rfl, ?_, (Below.refl _ _).alloc (Nat.le_refl _) _⟩
    rw [e0]
    exact World.ownsRow_made w (fresh (.string ⟨#[]⟩) n) n (Nat.le_refl _) (by unfold maxLen; omega) (by rw [fresh_size]; omega)
  case round =>
    obtain ⟨k, hk, rfl, rfl, hown, hbel⟩ := hrel
    clear hmk
    by_cases hlt : k < n
    · obtain ⟨b, off, rfl, hc⟩ := (hr.below hbel) (by omega)
      have hkl : k < xs.length := by rw [HL.out]; exact hlt
      have hck := hc k hlt
      unfold strAt at hck
      rw [getD_at hkl] at hck
      have hsz := hbel.size
      by_cases hkj : k = j
      · have ht : ((k : Int) != (j : Int)) = false := by simp [hkj]
        have e1 : rem xs j (k + 1) = rem xs j k := by subst hkj; exact rem_hit xs k hkl
        have HB := hide hbel
        have HO := hide hown
        have HE := hide e1
        clear hkj hc hr hck hbel hown e1
        go_wp2
        go_roundw
        case rel => exact ⟨k + 1, by omega, by go_num, by rw [HE.out], by rw [HE.out]; exact HO.out, HB.out⟩
        case measure => simp [intOf]; omega
      · have ht : ((k : Int) != (j : Int)) = true := by simp [bne_iff_ne]; omega
        have e1 := rem_miss xs j k hkl hkj
        have hrl := rem_len xs j k
        generalize xs[k] = y at hck e1
        have HB := hide hbel
        have HE := hide e1
        clear hkj hc hr hbel e1
        go_wp2_with (at_builtin; go_must (refine wpList_append_fits _ rfl _ _ 23 rfl w.heap.size 9 i0 1 Try.underlying23 hi hz1 w.heap.size (rem xs j k).length n (strs (rem xs j k)) rfl (hown.alloc _) ⟨wr.heap.size, 0, none⟩ 1 1 [.string y] rfl rfl (cell_one_new _ _ _) (by intro u hu; simp at hu; subst hu; rfl) (by omega) ?_); intro w1 hown1 hgrow)
        have hb1 : Below w.heap.size w w1 := (HB.out.alloc hsz _).grown hgrow (by simp; omega) (fun q hq => by cases hq; exact Nat.le_refl _)
        have HB1 := hide hb1
        have HO1 := hide hown1
        clear hb1 hown1 hgrow hown hck
        go_wp2
        go_roundw
        case rel =>
          have el : (rem xs j (k + 1)).length = (rem xs j k).length + 1 := by rw [HE.out]; simp
          have es : strs (rem xs j (k + 1)) = strs (rem xs j k) ++ [.string y] := by rw [HE.out]; simp [strs]
          exact ⟨k + 1, by omega, by go_num, by rw [el], by rw [el, es]; exact HO1.out, HB1.out⟩
        case measure => simp [intOf]; omega
    · have hkn : k = xs.length := by rw [HL.out]; omega
      have hfin : Hid (Made w (xs.eraseIdx j) (.returned (.slice (some ⟨w.heap.size, 0, none⟩) (rem xs j k).length n)) wr) := by
        have e2 : xs.eraseIdx j = rem xs j k := by rw [hkn, rem_all]
        rw [e2]
        exact Made.mk hown hbel
      clear hown hbel hr hkn
      go_wp2
      go_ret
      exact hfin.out

end Go.Proofs.Qxb6000035a
