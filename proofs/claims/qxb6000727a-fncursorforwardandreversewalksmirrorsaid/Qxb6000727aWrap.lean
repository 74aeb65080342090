/-
  seek (16), pop (17) by the shim; zzIs at found; the cursor kept by what only makes blocks.
-/
import Derived.Test.Qxb6000727aIs
set_option linter.unusedSimpArgs false
set_option linter.unusedVariables false
namespace Go.Proofs.Qxb6000727a
open Go.RowKit

section
variable {w0 w : World} {ps : List Pc} {sh : Int} {D : TB} {cb : Nat} {c : Cr} {M : List Nat}

theorem CurIn.below {w' : World} (h : CurIn w0 w D cb c M) (hb : Below w.heap.size w w') : CurIn w0 w' D cb c M := by
  refine ⟨h.bel.trans (hb.mono h.bel.size), h.cbl, h.blk.keep (hb.block cb h.blk.lt), ?_⟩
  refine ⟨h.row.1, ?_⟩
  rcases h.row.2 with q | ⟨g, cap, cur, hv, hg, hh, r⟩
  · exact Or.inl q
  · have hlt : g < w.heap.size := (Array.getElem?_eq_some_iff.1 hh).1
    exact Or.inr ⟨g, cap, cur, hv, hg, by rw [hb.block g hlt]; exact hh, r⟩

theorem is_found (hT : Tr w0 ps sh D) (hbel : Below w0.heap.size w0 w) {a : Option Addr} {cc : Nat} (hps : PsIn w a ps.length ps) {K : Nat} (hK : K ≤ ps.length) :
    Calls Try.prog 15 #[found D K, .slice a ps.length cc, .int .i64 ((K : Int) - 1)] w fun e w' => e = .returned (.bool true) ∧ Below w.heap.size w w' := by
  rcases K with _ | i
  · exact is_none a ps.length cc
  · have : ((i + 1 : Nat) : Int) - 1 = (i : Int) := by omega
    rw [this]
    exact is_some hT hbel hps (by omega)

theorem seek16F (hT : Tr w0 ps sh D) (hC : CurIn w0 w D cb c M) (hrev : c.rev = false) (hroot : c.root = ptrB (rootp sh D 0 ps.length))
    {a : Option Addr} {n kc : Nat} {ks : List Int} (hK : KeyB w a n ks) {K : Nat} (hcut : Cuts ps ks K) :
    Calls Try.prog 16 #[.pointer (some ⟨cb, 0, none⟩), .slice a n kc] w (SeekF w0 w ps sh D cb c K) := by
  have H := hide (seek_fwd (kc := kc) hT hC hrev hroot hK hcut)
  obtain ⟨F, hF⟩ := found_ptr D K
  have HF := hide hF
  clear hT hC hK hcut hrev hroot hF
  go_enter Try.func16, Try.ntmps16
  go_wp2_with fail
  refine H.out.mono ?_
  rintro e w' ⟨v', M', rfl, h1, h2, h3⟩
  have hfin : Hid (SeekF w0 w ps sh D cb c K (.returned (found D K)) w') := ⟨v', M', rfl, h1, h2, h3⟩
  clear h1 h2 h3
  rw [HF.out] at hfin ⊢
  go_wp2
  go_ret
  exact hfin.out

theorem seek16R (hT : Tr w0 ps sh D) (hC : CurIn w0 w D cb c M) (hrev : c.rev = true) (hroot : c.root = ptrB (rootp sh D 0 ps.length))
    {a : Option Addr} {n kc : Nat} {ks : List Int} (hK : KeyB w a n ks) {K : Nat} (hcut : Cuts ps ks K) :
    Calls Try.prog 16 #[.pointer (some ⟨cb, 0, none⟩), .slice a n kc] w (SeekR w0 w ps sh D cb c K) := by
  have H := hide (seek_rev (kc := kc) hT hC hrev hroot hK hcut)
  obtain ⟨F, hF⟩ := found_ptr D K
  have HF := hide hF
  clear hT hC hK hcut hrev hroot hF
  go_enter Try.func16, Try.ntmps16
  go_wp2_with fail
  refine H.out.mono ?_
  rintro e w' ⟨v', M', rfl, h1, h2, h3⟩
  have hfin : Hid (SeekR w0 w ps sh D cb c K (.returned (found D K)) w') := ⟨v', M', rfl, h1, h2, h3⟩
  clear h1 h2 h3
  rw [HF.out] at hfin ⊢
  go_wp2
  go_ret
  exact hfin.out

/-- What a pop gives: the node of piece i, or nil. -/
def PopA (rv : Bool) (w0 w : World) (ps : List Pc) (sh : Int) (D : TB) (cb : Nat) (c : Cr) (r : Value) (K : Nat) (e : Ending) (w' : World) : Prop :=
  ∃ v' M', e = .returned r ∧ CurIn w0 w' D cb { c with v := v' } M' ∧ (if rv then Rev w0 ps sh D 0 M' K else Fwd w0 ps sh D ps.length M' K) ∧ CStep w w' cb c { c with v := v' }

theorem pop17 {rv : Bool} {P : Option Addr} {K : Nat} (h : Calls Try.prog 33 #[.pointer (some ⟨cb, 0, none⟩)] w (PopA rv w0 w ps sh D cb c (.pointer P) K)) :
    Calls Try.prog 17 #[.pointer (some ⟨cb, 0, none⟩)] w (PopA rv w0 w ps sh D cb c (.pointer P) K) := by
  have H := hide h
  clear h
  go_enter Try.func17, Try.ntmps17
  go_wp2_with fail
  refine H.out.mono ?_
  rintro e w' ⟨v', M', rfl, h1, h2, h3⟩
  have hfin : Hid (PopA rv w0 w ps sh D cb c (.pointer P) K (.returned (.pointer P)) w') := ⟨v', M', rfl, h1, h2, h3⟩
  clear h1 h2 h3
  go_wp2
  go_ret
  exact hfin.out

/-- Forward, a piece is left. -/
theorem pop17F (hT : Tr w0 ps sh D) {K : Nat} (hC : CurIn w0 w D cb c M) (hF : Fwd w0 ps sh D ps.length M K) (hrev : c.rev = false) (hK : K < ps.length) :
    Calls Try.prog 17 #[.pointer (some ⟨cb, 0, none⟩)] w (PopA false w0 w ps sh D cb c (nodeP D K) (K + 1)) := by
  rcases M.eq_nil_or_concat with hM | ⟨M1, m, hM⟩
  · subst hM
    have : K = ps.length := hF
    omega
  · rw [List.concat_eq_append] at hM
    subst hM
    obtain ⟨hm, _⟩ := hF.top
    subst hm
    refine pop17 ((pop_fwd hT hC hF hrev).mono ?_)
    rintro e w' ⟨v', M', rfl, h1, h2, h3⟩
    exact ⟨v', M', rfl, h1, h2, h3⟩
/-- Forward, none is left. -/
theorem pop17F_end {K : Nat} (hC : CurIn w0 w D cb c M) (hF : Fwd w0 ps sh D ps.length M K) (hK : K = ps.length) :
    Calls Try.prog 17 #[.pointer (some ⟨cb, 0, none⟩)] w (PopA false w0 w ps sh D cb c (.pointer none) K) := by
  have hl := hF.len
  have hM : M = [] := List.eq_nil_of_length_eq_zero (by omega)
  subst hM
  refine pop17 ((pop_empty hC).mono ?_)
  rintro e w' ⟨rfl, rfl⟩
  exact ⟨c.v, [], rfl, hC, hF, CStep.refl _ _ _⟩
/-- In reverse, a piece is left. -/
theorem pop17R (hT : Tr w0 ps sh D) {K : Nat} (hC : CurIn w0 w D cb c M) (hF : Rev w0 ps sh D 0 M (K + 1)) (hrev : c.rev = true) (hK : K < ps.length) :
    Calls Try.prog 17 #[.pointer (some ⟨cb, 0, none⟩)] w (PopA true w0 w ps sh D cb c (nodeP D K) K) := by
  rcases M.eq_nil_or_concat with hM | ⟨M1, m, hM⟩
  · subst hM
    have : K + 1 = 0 := hF
    omega
  · rw [List.concat_eq_append] at hM
    subst hM
    obtain ⟨hm, _⟩ := hF.top
    have hm' : K = m := by omega
    subst hm'
    refine pop17 ((pop_rev hT hC hF hK hrev).mono ?_)
    rintro e w' ⟨v', M', rfl, h1, h2, h3⟩
    exact ⟨v', M', rfl, h1, h2, h3⟩
theorem pop17R_end (hC : CurIn w0 w D cb c M) (hF : Rev w0 ps sh D 0 M 0) :
    Calls Try.prog 17 #[.pointer (some ⟨cb, 0, none⟩)] w (PopA true w0 w ps sh D cb c (.pointer none) 0) := by
  have hl := hF.len
  have hM : M = [] := List.eq_nil_of_length_eq_zero (by omega)
  subst hM
  refine pop17 ((pop_empty hC).mono ?_)
  rintro e w' ⟨rfl, rfl⟩
  exact ⟨c.v, [], rfl, hC, hF, CStep.refl _ _ _⟩
end

end Go.Proofs.Qxb6000727a
