/-
  zzIs (15), where it answers true; seek (16), pop (17).
-/
import Derived.Test.Qxb6000727aShimc
set_option linter.unusedSimpArgs false
set_option linter.unusedVariables false
namespace Go.Proofs.Qxb6000727a
open Go.RowKit

section
variable {w0 w : World} {ps : List Pc} {sh : Int} {D : TB}

theorem is_none (a : Option Addr) (n c : Nat) : Calls Try.prog 15 #[.pointer none, .slice a n c, .int .i64 (-1)] w fun e w' => e = .returned (.bool true) ∧ Below w.heap.size w w' := by
  go_enter Try.func15, Try.ntmps15
  go_wp2
  go_ret
  exact ⟨rfl, Below.refl _ _⟩

theorem below_size {w w' : World} (h : Below w.heap.size w w') : w.heap.size ≤ w'.heap.size := h.size

set_option maxHeartbeats 4000000 in
set_option maxRecDepth 100000 in
theorem is_some (hT : Tr w0 ps sh D) (hbel : Below w0.heap.size w0 w) {a : Option Addr} {c : Nat} (hps : PsIn w a ps.length ps) {i : Nat} (hi' : i < ps.length) :
    Calls Try.prog 15 #[.pointer (some ⟨D.blk i, 0, none⟩), .slice a ps.length c, .int .i64 i] w fun e w' => e = .returned (.bool true) ∧ Below w.heap.size w w' := by
  obtain ⟨L, R, hfr⟩ := hT.frag hi'
  have hf := hfr.below hbel
  have hgp := hT.good.pos i hi'
  obtain ⟨q0, q1, q2⟩ := hgp
  obtain ⟨b, off, rfl, hc⟩ := hps.2 (by omega)
  obtain ⟨hc1, hc2, hc3⟩ := hc i hi'
  have HQ1 : Hid (∀ w'', Below w.heap.size w w'' → w''.cell? ⟨b, off + i * 3, none⟩ = some (.int .u32 (lo ps i))) := fun w'' hb => (hb.cell (by exact World.block_lt_of_cell? w _ hc1)).trans hc1
  have HQ2 : Hid (∀ w'', Below w.heap.size w w'' → w''.cell? ⟨b, off + i * 3 + 1, none⟩ = some (.int .u32 (hi ps i))) := fun w'' hb => (hb.cell (by exact World.block_lt_of_cell? w _ hc2)).trans hc2
  have HQ3 : Hid (∀ w'', Below w.heap.size w w'' → w''.cell? ⟨b, off + i * 3 + 2, none⟩ = some (.int .u64 (sq ps i))) := fun w'' hb => (hb.cell (by exact World.block_lt_of_cell? w _ hc3)).trans hc3
  have HFR : Hid (∀ w'', Below w.heap.size w w'' → Frag w'' ps D i L R) := fun w'' hb => hf.below hb
  have HG := hide hT.good
  have hsm := hT.small
  have hB0 : Below w.heap.size w w := Below.refl _ _
  have hBd : Below w.heap.size w w.drew := hB0.drew
  have hd1 := HQ1.out _ hBd
  have hd2 := HQ2.out _ hBd
  have hd3 := HQ3.out _ hBd
  have HST : Hid (∀ w'', Below w.heap.size w w'' → Calls Try.prog 20 #[.pointer (some ⟨D.blk i, 0, none⟩)] w'' fun e w' => e = .returned (.slice (some ⟨D.sb i, 0, none⟩) (enc (lo ps i)).length (enc (lo ps i)).length) ∧ w' = w'') := fun w'' hb => start_any (hf.below hb)
  have HEN : Hid (∀ w'', Below w.heap.size w w'' → Calls Try.prog 30 #[.pointer (some ⟨D.blk i, 0, none⟩)] w'' fun e w' => e = .returned (.slice (some ⟨D.eb i, 0, none⟩) (enc (hi ps i)).length (enc (hi ps i)).length) ∧ w' = w'') := fun w'' hb => end_any (hf.below hb)
  have HSQ : Hid (∀ w'', Below w.heap.size w w'' → Calls Try.prog 31 #[.pointer (some ⟨D.blk i, 0, none⟩)] w'' fun e w' => e = .returned (.int .u64 (sq ps i)) ∧ w' = w'') := fun w'' hb => seq_any (hf.below hb)
  have HE1 : Hid (∀ w'', Below w.heap.size w w'' → Calls Try.prog 14 #[.int .u32 (lo ps i)] w'' fun e w' => ∃ g, e = .returned (.slice (some ⟨g, 0, none⟩) (enc (lo ps i)).length (enc (lo ps i)).length) ∧ KeyIn w' (some ⟨g, 0, none⟩) (enc (lo ps i)).length (enc (lo ps i)) ∧ Below w.heap.size w w') := by
    intro w'' hb
    refine (enc_any w'' _ (by omega) (by omega)).mono ?_
    rintro e w' ⟨rfl, rfl⟩
    exact ⟨_, rfl, KeyIn.of_blk (Blk.made _ _ _) (by omega) (by omega), hb.alloc hb.size _⟩
  have HE2 : Hid (∀ w'', Below w.heap.size w w'' → Calls Try.prog 14 #[.int .u32 (hi ps i)] w'' fun e w' => ∃ g, e = .returned (.slice (some ⟨g, 0, none⟩) (enc (hi ps i)).length (enc (hi ps i)).length) ∧ KeyIn w' (some ⟨g, 0, none⟩) (enc (hi ps i)).length (enc (hi ps i)) ∧ Below w.heap.size w w') := by
    intro w'' hb
    refine (enc_any w'' _ (by omega) (by omega)).mono ?_
    rintro e w' ⟨rfl, rfl⟩
    exact ⟨_, rfl, KeyIn.of_blk (Blk.made _ _ _) (by omega) (by omega), hb.alloc hb.size _⟩
  have HS1 : Hid (∀ w'' g, Below w.heap.size w w'' → KeyIn w'' (some ⟨g, 0, none⟩) (enc (lo ps i)).length (enc (lo ps i)) → Calls Try.prog 29 #[.slice (some ⟨D.sb i, 0, none⟩) (enc (lo ps i)).length (enc (lo ps i)).length, .slice (some ⟨g, 0, none⟩) (enc (lo ps i)).length (enc (lo ps i)).length] w'' fun e w' => e = .returned (.bool true) ∧ Below w.heap.size w w') := by
    intro w'' g hb hk
    refine (same_any (frag_start (hf.below hb) hT.good hi') hk (by have := enc_len (lo ps i); omega)).mono ?_
    rintro e w' ⟨rfl, hs⟩
    exact ⟨rfl, Below.same' hb hs⟩
  have HS2 : Hid (∀ w'' g, Below w.heap.size w w'' → KeyIn w'' (some ⟨g, 0, none⟩) (enc (hi ps i)).length (enc (hi ps i)) → Calls Try.prog 29 #[.slice (some ⟨D.eb i, 0, none⟩) (enc (hi ps i)).length (enc (hi ps i)).length, .slice (some ⟨g, 0, none⟩) (enc (hi ps i)).length (enc (hi ps i)).length] w'' fun e w' => e = .returned (.bool true) ∧ Below w.heap.size w w') := by
    intro w'' g hb hk
    refine (same_any (frag_end (hf.below hb) hT.good hi') hk (by have := enc_len (hi ps i); omega)).mono ?_
    rintro e w' ⟨rfl, hs⟩
    exact ⟨rfl, Below.same' hb hs⟩
  clear hfr hf hps hc hT hbel HFR HG
  generalize enc (lo ps i) = E1 at HST HE1 HS1
  generalize enc (hi ps i) = E2 at HEN HE2 HS2
  generalize E1.length = l1 at HST HE1 HS1
  generalize E2.length = l2 at HEN HE2 HS2
  generalize D.blk i = Bk at HST HEN HSQ ⊢
  generalize D.sb i = Sb at HST HS1
  generalize D.eb i = Eb at HEN HS2
  generalize lo ps i = x at hc1 hd1 HQ1 HE1
  generalize hi ps i = y at hc2 hd2 HQ2 HE2
  generalize sq ps i = z at hc3 hd3 HQ3 HSQ
  go_enter Try.func15, Try.ntmps15
  go_wp2_with fail
  go_region_held3 (fun w' => Below w.heap.size w w' ∧ w'.cell? ⟨b, off + i * 3, none⟩ = some (.int .u32 x) ∧ w'.cell? ⟨b, off + i * 3 + 1, none⟩ = some (.int .u32 y) ∧ w'.cell? ⟨b, off + i * 3 + 2, none⟩ = some (.int .u64 z)) (first | assumption | exact ⟨by assumption, by assumption, by assumption, by assumption⟩ | simp [*])
    (first
    | (go_at_call 20; refine (HST.out _ (by assumption)).mono ?_; rintro e w' ⟨rfl, rfl⟩)
    | (go_at_call 30; refine (HEN.out _ (by assumption)).mono ?_; rintro e w' ⟨rfl, rfl⟩)
    | (go_at_call 31; refine (HSQ.out _ (by assumption)).mono ?_; rintro e w' ⟨rfl, rfl⟩)
    | (go_at_call_of 14 x; refine (HE1.out _ (by assumption)).mono ?_; rintro e w' ⟨g, rfl, hk', hb'⟩; have t1 := HQ1.out _ hb'; have t2 := HQ2.out _ hb'; have t3 := HQ3.out _ hb')
    | (go_at_call_of 14 y; refine (HE2.out _ (by assumption)).mono ?_; rintro e w' ⟨g, rfl, hk', hb'⟩; have t1 := HQ1.out _ hb'; have t2 := HQ2.out _ hb'; have t3 := HQ3.out _ hb')
    | (go_at_call_of 29 Sb; refine (HS1.out _ _ (by assumption) (by assumption)).mono ?_; rintro e w' ⟨rfl, hb'⟩; have t1 := HQ1.out _ hb'; have t2 := HQ2.out _ hb'; have t3 := HQ3.out _ hb')
    | (go_at_call_of 29 Eb; refine (HS2.out _ _ (by assumption) (by assumption)).mono ?_; rintro e w' ⟨rfl, hb'⟩; have t1 := HQ1.out _ hb'; have t2 := HQ2.out _ hb'; have t3 := HQ3.out _ hb'))
  all_goals
    go_wp2
    go_ret
    exact ⟨rfl, by assumption⟩
end

end Go.Proofs.Qxb6000727a
