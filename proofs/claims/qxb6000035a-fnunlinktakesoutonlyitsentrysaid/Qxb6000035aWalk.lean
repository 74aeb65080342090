/-
  zzWalk (25): the free list read off, oldest to newest: it is the queue.
-/
import Derived.Test.Qxb6000035aLists
import Derived.Test.Qxb6000035aAcc
import Derived.Maps.AppendAt
set_option linter.unusedSimpArgs false
set_option linter.unusedVariables false
namespace Go.Proofs.Qxb6000035a
open Go.RowKit

theorem Tok.below {w w' : World} {S : TS} (h : Tok w S) (hb : Below w.heap.size w w') : Tok w' S :=
  h.keep fun k hk => hb.block k (h.foot_lt hk)
theorem Below.same' {B : Nat} {a w w' : World} (h : Below B a w) (k : Same w w') : Below B a w' :=
  ⟨k.os.trans h.os, k.tape.trans h.tape, k.output.trans h.output, by rw [k.heap]; exact h.size, fun i hi => by rw [k.heap]; exact h.block i hi⟩
theorem Same.below (B : Nat) {w w' : World} (k : Same w w') : Below B w w' := Below.same' (Below.refl B w) k
theorem Same.owns {w w' : World} (k : Same w w') {base : Nat} {e : TypeId} {size : Nat} {v : Value} {n : Nat} {xs : List Value} (h : w.ownsRow base e size v n xs) : w'.ownsRow base e size v n xs := by
  obtain ⟨h1, h2⟩ := h
  refine ⟨h1, ?_⟩
  rcases h2 with h2 | ⟨g, cap, cur, hv, hg, hh, r⟩
  · exact Or.inl h2
  · exact Or.inr ⟨g, cap, cur, hv, hg, by rw [k.heap]; exact hh, r⟩

/-- The names as cells. -/
def strs (xs : List ByteArray) : List Value := xs.map Value.string
theorem strs_len (xs : List ByteArray) : (strs xs).length = xs.length := by simp [strs]

/-- An owned slice of names: its shape and its elements. -/
theorem owns_row {w : World} {base : Nat} {v : Value} {n : Nat} {xs : List ByteArray} (h : w.ownsRow base 9 1 v n (strs xs)) :
    xs.length = n ∧ ∃ a c, v = .slice a n c ∧ RowV w a n (strAt xs) := by
  have hl : xs.length = n := by have := h.1; rw [strs_len] at this; omega
  refine ⟨hl, ?_⟩
  rcases h.2 with ⟨hv, hn⟩ | ⟨g, cap, cur, hv, _⟩
  · subst hn
    exact ⟨none, 0, hv, fun q => absurd q (Nat.lt_irrefl _)⟩
  · refine ⟨_, cap, hv, fun _ => ⟨g, 0, rfl, fun i hi => ?_⟩⟩
    have hx : i < xs.length := by omega
    have := h.cells (g := g) (by rw [hv]; rfl) i (.string xs[i]) (by simp [strs, hx])
    have e : (⟨g, 0, none⟩ : Addr).add i = ⟨g, 0 + i, none⟩ := by unfold Addr.add; split <;> simp_all
    rw [e] at this
    rw [this]
    simp [strAt, List.getD, hx]

def lenOf : Value → Nat | .slice _ n _ => n | _ => 0

def Walked (w : World) (Q : List ByteArray) (e : Ending) (w' : World) : Prop :=
  ∃ a c, e = .returned (.tuple #[.slice a Q.length c, .bool true]) ∧ RowV w' a Q.length (strAt Q) ∧ Below w.heap.size w w'

theorem Same.drewN {w w' : World} (h : Same w w') (n : Nat) : Same w (w'.drewN n) := ⟨h.heap, h.os, h.tape, h.output⟩

theorem Walked.mk {w w' : World} {Q : List ByteArray} {a : Option Addr} {n c : Nat} (hn : Q.length = n) (hr : RowV w' a n (strAt Q)) (hb : Below w.heap.size w w') : Walked w Q (.returned (.tuple #[.slice a n c, .bool true])) w' := by
  subst hn; exact ⟨a, c, rfl, hr, hb⟩

theorem owns_len {w : World} {base : Nat} {e : TypeId} {size : Nat} {v : Value} {n : Nat} {xs : List Value} (h : w.ownsRow base e size v n xs) : lenOf v = n := by
  rcases h.2 with ⟨rfl, rfl⟩ | ⟨g, cap, cur, rfl, _⟩ <;> rfl

theorem strs_snoc {Q : List ByteArray} {k : Nat} (h : k < Q.length) : strs (Q.take k) ++ [.string Q[k]] = strs (Q.take (k + 1)) := by
  unfold strs; rw [List.take_succ_eq_append_getElem h, List.map_append]; rfl

set_option maxHeartbeats 1000000 in
set_option maxRecDepth 100000 in
theorem walk_any {w : World} {S : TS} (h : Tok w S) (L : Nat) (hL : S.Q.length ≤ L) (hL2 : L ≤ 1000000) :
    Calls Try.prog 25 #[.pointer (some ⟨S.tb, 0, none⟩), .int .i64 L] w (Walked w S.Q) := by
  obtain ⟨i0, hi, hz0, hz1, hz2⟩ := info_parts Try.info9
  go_enter Try.func25, Try.ntmps25
  go_wp2_with fail
  refine (zzOldest_any h).mono ?_
  rintro e w1 ⟨rfl, hs1⟩
  unfold named
  have H := hide h
  have HS1 := hide hs1
  have HL := hide hL
  clear h hs1 hL
  go_wp2
  go_loopw [6, 7, 8] (fun v cur ok wr => ∃ k : Nat, k ≤ S.Q.length ∧ wr.ownsRow w.heap.size 9 1 v k (strs (S.Q.take k)) ∧ (k = 0 → v = .slice none 0 0) ∧
      cur = .string ((S.Q[k]?).getD ⟨#[]⟩) ∧ ok = .bool (S.Q[k]?).isSome ∧ Below w.heap.size w wr) (fun v _ _ _ => S.Q.length - lenOf v)
  case atStart =>
    refine ⟨0, Nat.zero_le _, World.ownsRow_nil _ _ _ _, fun _ => rfl, ?_, ?_, HS1.out.below _⟩
    · rw [List.head?_eq_getElem?]
    · rw [List.head?_eq_getElem?]
  case round =>
    obtain ⟨k, hk, hown, hv0, rfl, rfl, hbel⟩ := hrel
    have htok := H.out.below hbel
    by_cases hlt : k < S.Q.length
    · have hq : S.Q[k]? = some S.Q[k] := by simp [hlt]
      have hmem : S.Q[k] ∈ S.Q := List.getElem_mem hlt
      have hpre := pre_at S.Q htok.ndQ k hlt
      have hsuc := suc_at S.Q htok.ndQ k hlt
      have hsn := strs_snoc hlt
      have hkL : ¬ ((L : Int) ≤ (k : Int)) := by have := HL.out; omega
      rw [hq]
      generalize S.Q[k] = y at hmem hpre hsuc hsn
      have HQ := hide hq
      have HP := hide hpre
      have HU := hide hsuc
      have HN := hide hsn
      have HT := hide htok
      have HB := hide hbel
      have HM := hide hmem
      clear hq hpre hsuc hsn htok hbel hmem
      simp only [Option.getD_some, Option.isSome_some]
      by_cases hk0 : k = 0
      · subst hk0
        obtain rfl := hv0 rfl
        go_wp2_with fail
        refine (zzOlder_any HT.out (HT.out.sub y HM.out)).mono ?_
        rintro e w2 ⟨rfl, hs2⟩
        rw [HP.out]
        have hown2 := hs2.owns hown
        have hsz : w.heap.size ≤ w2.heap.size := by rw [hs2.heap]; exact HB.out.size
        have HB2 := hide (Below.same' HB.out hs2)
        clear hs2 hown
        unfold named
        go_wp2_with (at_builtin; go_must (refine wpList_append_own _ rfl _ _ 23 rfl w.heap.size 9 i0 (.string ⟨#[]⟩) 1 16 Try.underlying23 hi hz0 hz1 hz2 rfl (by decide) _ _ _ rfl (hown2.alloc _) ⟨w2.heap.size, 0, none⟩ 1 1 [.string y] rfl rfl (cell_one_new _ _ _) (by intro u hu; simp at hu; subst hu; rfl) (by decide) (by decide) (by simp; omega) ?_); intro v' w3 hown3 hgrow hnil)
        have hb3 : Below w.heap.size w w3 := (HB2.out.alloc hsz _).grown hgrow (by simp; omega) (fun q hq => (hown2.lt q hq).1)
        have ht3 := H.out.below hb3
        refine (zzNewer_any ht3 (ht3.sub y HM.out)).mono ?_
        rintro e w4 ⟨rfl, hs4⟩
        rw [HU.out]
        unfold named
        have hown4 := hide (hs4.owns hown3)
        have hb4 := hide (Below.same' hb3 hs4)
        clear hown3 hgrow hnil hb3 ht3 hs4 hown2
        go_wp2
        go_roundw
        case rel =>
          refine ⟨1, by omega, ?_, fun q => by omega, rfl, rfl, hb4.out⟩
          have := hown4.out
          rw [HN.out] at this
          exact this
        case measure =>
          have := owns_len hown4.out
          simp only [lenOf] at this ⊢
          omega
      · obtain ⟨m, rfl⟩ : ∃ m, k = m + 1 := ⟨k - 1, by omega⟩
        obtain ⟨g, cap, rfl⟩ : ∃ g cap, u6 = Value.slice (some ⟨g, 0, none⟩) (m + 1) cap := by
          rcases hown.2 with ⟨_, q⟩ | ⟨g, cap, _, q, _⟩
          · omega
          · exact ⟨g, cap, q⟩
        have hm : m < S.Q.length := by omega
        have hPm : pre S.Q y = some S.Q[m] := by
          rw [HP.out, if_neg (by omega)]
          simp [hm]
        have hcell : wr.cell? ⟨g, m, none⟩ = some (.string S.Q[m]) := by
          have := hown.cells (g := g) rfl m (.string S.Q[m]) (by simp [strs, hm])
          have e : (⟨g, 0, none⟩ : Addr).add m = ⟨g, m, none⟩ := by unfold Addr.add; split <;> simp_all
          rw [e] at this
          exact this
        generalize S.Q[m] = z at hPm hcell
        have HPm := hide hPm
        clear hPm
        go_wp2_with fail
        refine (zzOlder_any HT.out (HT.out.sub y HM.out)).mono ?_
        rintro e w2 ⟨rfl, hs2⟩
        rw [HPm.out]
        have hown2 := hs2.owns hown
        have hc2 := (hs2.cell ⟨g, m, none⟩).trans hcell
        have hsz : w.heap.size ≤ w2.heap.size := by rw [hs2.heap]; exact HB.out.size
        have HB2 := hide (Below.same' HB.out hs2)
        clear hs2 hown hcell
        unfold named
        go_wp2_with (at_builtin; go_must (refine wpList_append_own _ rfl _ _ 23 rfl w.heap.size 9 i0 (.string ⟨#[]⟩) 1 16 Try.underlying23 hi hz0 hz1 hz2 rfl (by decide) _ _ _ rfl (hown2.alloc _) ⟨w2.heap.size, 0, none⟩ 1 1 [.string y] rfl rfl (cell_one_new _ _ _) (by intro u hu; simp at hu; subst hu; rfl) (by unfold maxLen; have := HL.out; omega) (by have := HL.out; omega) (by simp; omega) ?_); intro v' w3 hown3 hgrow hnil)
        have hb3 : Below w.heap.size w w3 := (HB2.out.alloc hsz _).grown hgrow (by simp; omega) (fun q hq => (hown2.lt q hq).1)
        have ht3 := H.out.below hb3
        refine (zzNewer_any ht3 (ht3.sub y HM.out)).mono ?_
        rintro e w4 ⟨rfl, hs4⟩
        rw [HU.out]
        unfold named
        have hown4 := hide (hs4.owns hown3)
        have hb4 := hide (Below.same' hb3 hs4)
        clear hown3 hgrow hnil hb3 ht3 hs4 hown2 hc2
        go_wp2
        go_roundw
        case rel =>
          refine ⟨m + 1 + 1, by omega, ?_, fun q => by omega, rfl, rfl, hb4.out⟩
          have := hown4.out
          rw [HN.out] at this
          exact this
        case measure =>
          have := owns_len hown4.out
          simp only [lenOf] at this ⊢
          omega
    · have hkQ : k = S.Q.length := by omega
      subst hkQ
      have hq : S.Q[S.Q.length]? = none := by simp
      rw [hq]
      rw [List.take_length] at hown
      obtain ⟨_, a, c, rfl, hrow⟩ := owns_row hown
      have HT := hide htok
      have HB := hide hbel
      simp only [Option.getD_none, Option.isSome_none]
      clear htok hbel hq
      go_wp2_with fail
      refine (zzNewest_any HT.out).mono ?_
      rintro e w2 ⟨rfl, hs2⟩
      have HB2 := hide (Below.same' HB.out hs2)
      have hrow2 : RowV w2 a S.Q.length (strAt S.Q) := by
        intro hn
        obtain ⟨b, off, ha, hc⟩ := hrow hn
        exact ⟨b, off, ha, fun i hi => (hs2.cell _).trans (hc i hi)⟩
      have hlast : S.Q.getLast? = S.Q[S.Q.length - 1]? := List.getLast?_eq_getElem?
      generalize hlen : S.Q.length = n at hrow2 hlast
      have HN := hide hlen
      clear hrow hown hs2
      rcases n with _ | m
      · have h0 : S.Q.getLast? = none := by
          rw [List.getLast?_eq_none_iff]
          exact List.eq_nil_of_length_eq_zero hlen
        rw [h0]
        unfold named
        have hfin := fun c => hide (Walked.mk (c := c) HN.out hrow2 HB2.out)
        clear hlen hlast h0 hrow2
        go_wp2
        go_ret2
        exact (hfin _).out
      · have hml : m < S.Q.length := by omega
        have h0 : S.Q.getLast? = some S.Q[m] := by
          rw [hlast]; simp [hml]
        rw [h0]
        unfold named
        obtain ⟨b, off, rfl, hc⟩ := hrow2 (by omega)
        have hcm := hc m (by omega)
        unfold strAt at hcm
        rw [getD_at hml] at hcm
        generalize S.Q[m] = z at hcm
        have hfin := fun c (w' : World) (k : Same w2 w') => hide (Walked.mk (c := c) (w' := w') HN.out (fun hn => by
            obtain ⟨b, off, ha, hc⟩ := hrow2 hn
            exact ⟨b, off, ha, fun i hi => (k.cell _).trans (hc i hi)⟩) (Below.same' HB2.out k))
        clear hlen hlast h0 hrow2 hc hml
        have hmb : (m : Int) < (m : Int) + 1 := by omega
        have hmL : m < L := by have := HN.out; have := HL.out; omega
        go_wp2
        go_quiet (fail)
        go_wp2
        go_ret2
        exact (hfin _ _ ((Same.refl _).drewN _)).out

end Go.Proofs.Qxb6000035a
