/-
  THE SHIM's FUNCTIONS over the state.
-/
import Derived.Test.Qxb6000035aOps
set_option linter.unusedSimpArgs false
set_option linter.unusedVariables false
namespace Go.Proofs.Qxb6000035a
open Go.RowKit Go.Maps

theorem Held.same {w w1 w2 : World} {S S' : TS} {r : ByteArray} (h : Held w S r w1 S') (k : Same w1 w2) : Held w S r w2 S' :=
  ⟨h.tok.same k, h.K, h.Q, h.tb, h.fg, h.fr.same k, h.foot⟩

def S0 (tb : Nat) (fg : Int) : TS := { tb := tb, mo := none, blk := fun _ => 0, K := [], Q := [], fg := fg }

theorem newTokens_any (w : World) (fg : Int) :
    Calls Try.prog 11 #[.int .u64 fg] w fun e w' => e = .returned (.pointer (some ⟨w.heap.size, 0, none⟩)) ∧ Tok w' (S0 w.heap.size fg) ∧ w' = w.alloc (.cells (tokA none none none 0 fg) 45) := by
  have hb := Blk.made w (tokA none none none 0 fg) 45
  have hT : Tok (w.alloc (.cells (tokA none none none 0 fg) 45)) (S0 w.heap.size fg) :=
    ⟨hb, (fun s hs => by cases hs), (fun s hs => by cases hs), List.Pairwise.nil, List.Pairwise.nil, (fun s hs => by cases hs), (fun s hs => by cases hs), Or.inl ⟨rfl, rfl⟩⟩
  have H := hide hT
  clear hT hb
  go_enter Try.func11, Try.ntmps11
  go_wp2
  go_ret
  exact ⟨rfl, H.out, rfl⟩

theorem zzFrees_any {w : World} {S : TS} (h : Tok w S) : Calls Try.prog 21 #[.pointer (some ⟨S.tb, 0, none⟩)] w fun e w' => e = .returned (.int .i64 S.Q.length) ∧ w' = w := by
  have t3 : w.cell? ⟨S.tb, 3, none⟩ = some (.int .i64 S.Q.length) := h.hdr.cell 3
  clear h
  go_enter Try.func21, Try.ntmps21
  go_wp2
  go_ret
  exact ⟨rfl, rfl⟩

theorem zzFree_any {w : World} {S : TS} (h : Tok w S) (r : ByteArray) (hr : r.size ≤ maxLen) (hlen : S.Q.length ≤ 1000000) :
    Calls Try.prog 17 #[.pointer (some ⟨S.tb, 0, none⟩), .string r] w fun e w' => e = .returned (.tuple #[]) ∧ Tok w' { S with Q := freeQ S.K S.Q r } ∧ Fr S.foot w w' := by
  have H := hide (free_any h r hr hlen)
  clear h hr hlen
  go_enter Try.func17, Try.ntmps17
  go_wp2_with fail
  refine H.out.mono ?_
  rintro e w1 ⟨rfl, h1, h2⟩
  go_wp2
  go_end0
  exact ⟨rfl, h1, h2⟩

theorem zzUnlink_any {w : World} {S : TS} (h : Tok w S) {r : ByteArray} (hr : r ∈ S.Q) (hlen : S.Q.length ≤ 1000000) :
    Calls Try.prog 15 #[.pointer (some ⟨S.tb, 0, none⟩), .string r] w fun e w' => e = .returned (.tuple #[]) ∧ Tok w' { S with Q := del S.Q r } ∧ Fr S.foot w w' := by
  have H := hide (unlink_any h hr hlen)
  have hrun := h.look r (h.small r (h.sub r hr))
  rw [isIn_yes (h.sub r hr), if_pos rfl] at hrun
  have t0 : w.cell? ⟨S.tb, 0, none⟩ = some (.map S.mo) := h.hdr.cell 0
  clear h hr hlen
  go_enter Try.func15, Try.ntmps15
  go_wp2_with fail
  refine H.out.mono ?_
  rintro e w1 ⟨rfl, h1, h2⟩
  go_wp2
  go_end0
  exact ⟨rfl, h1, h2⟩

theorem zzHold_any {w : World} {S : TS} (h : Tok w S) (r : ByteArray) (hr : r.size ≤ maxLen) (hlen : S.Q.length ≤ 1000000) (hlenK : S.K.length ≤ 1000000) :
    Calls Try.prog 23 #[.pointer (some ⟨S.tb, 0, none⟩), .string r] w fun e w' => ∃ S', e = .returned (.tuple #[.int .u64 S.fg, .bool false]) ∧ Held w S r w' S' := by
  have H := hide (hold_any h r hr hlen hlenK)
  have hnd := hide h.ndQ
  clear h hr hlen hlenK
  go_enter Try.func23, Try.ntmps23
  go_wp2_with fail
  refine H.out.mono ?_
  rintro e w1 ⟨S', rfl, hh⟩
  have hrK : r ∈ S'.K := by
    rw [hh.K]
    unfold addK
    split
    · rename_i q; exact (isIn_iff _ _).1 q
    · simp
  have hE := hh.tok.ent r hrK
  have hq : isIn r S'.Q = false := by
    rw [hh.Q]
    exact isIn_no (fun q => ((mem_del hnd.out).1 q).1 rfl)
  unfold TS.ent at hE
  rw [hq, hh.fg] at hE
  have e1 : w1.cell? ⟨S'.blk r, 1, none⟩ = some (.int .u64 S.fg) := hE.cell 1
  have e3 : w1.cell? ⟨S'.blk r, 3, none⟩ = some (.bool false) := hE.cell 3
  have HH := hide hh
  clear hh hE hq hrK H hnd
  go_wp2
  go_region
  all_goals (try go_wp2)
  all_goals (go_ret2; exact ⟨S', rfl, HH.out.same (Same.refl _).drew⟩)

theorem zzKnown_any {w : World} {S : TS} (h : Tok w S) (r : ByteArray) (hr : r.size ≤ maxLen) :
    Calls Try.prog 27 #[.pointer (some ⟨S.tb, 0, none⟩), .string r] w fun e w' => e = .returned (.tuple #[.bool (isIn r S.K), .bool (isIn r S.Q)]) ∧ Same w w' := by
  have hrun := h.look_ok r hr
  have t0 : w.cell? ⟨S.tb, 0, none⟩ = some (.map S.mo) := h.hdr.cell 0
  by_cases hK : r ∈ S.K
  · have hE := h.ent r hK
    unfold TS.ent at hE
    have e3 : w.cell? ⟨S.blk r, 3, none⟩ = some (.bool (isIn r S.Q)) := hE.cell 3
    rw [isIn_yes hK, if_pos rfl] at hrun
    rw [isIn_yes hK]
    clear hE h hK
    go_enter Try.func27, Try.ntmps27
    go_wp2
    go_region
    all_goals (try go_wp2)
    all_goals (go_ret2; exact ⟨rfl, (Same.refl _).drew⟩)
  · have hQ : r ∉ S.Q := fun q => hK (h.sub r q)
    have hrun2 : (Instr.lookup 42 (.map S.mo) (.string r) true).run Try.prog w = .ok (.tuple #[.pointer none, .bool false]) w := by rw [hrun, isIn_no hK]; rfl
    rw [isIn_no hK, isIn_no hQ]
    clear hrun h hK hQ
    go_enter Try.func27, Try.ntmps27
    go_wp2
    go_ret2
    exact ⟨rfl, Same.refl _⟩

/-- What the four readers of the queue answer. -/
def named (o : Option ByteArray) : Value := .tuple #[.string (o.getD ⟨#[]⟩), .bool o.isSome]

theorem zzOldest_any {w : World} {S : TS} (h : Tok w S) : Calls Try.prog 31 #[.pointer (some ⟨S.tb, 0, none⟩)] w fun e w' => e = .returned (named S.Q.head?) ∧ Same w w' := by
  have t1 : w.cell? ⟨S.tb, 1, none⟩ = some (ptr S.blk S.Q.head?) := h.hdr.cell 1
  cases hp : S.Q.head? with
  | none =>
    rw [hp, ptr_none] at t1
    clear h hp
    go_enter Try.func31, Try.ntmps31
    go_wp2
    go_ret2
    exact ⟨rfl, Same.refl _⟩
  | some p =>
    rw [hp, ptr_some] at t1
    have hE := h.ent p (h.sub p (List.mem_of_mem_head? hp))
    unfold TS.ent at hE
    have e0 : w.cell? ⟨S.blk p, 0, none⟩ = some (.string p) := hE.cell 0
    clear h hE hp
    go_enter Try.func31, Try.ntmps31
    go_wp2
    go_ret2
    exact ⟨rfl, Same.refl _⟩

theorem zzNewest_any {w : World} {S : TS} (h : Tok w S) : Calls Try.prog 34 #[.pointer (some ⟨S.tb, 0, none⟩)] w fun e w' => e = .returned (named S.Q.getLast?) ∧ Same w w' := by
  have t1 : w.cell? ⟨S.tb, 2, none⟩ = some (ptr S.blk S.Q.getLast?) := h.hdr.cell 2
  cases hp : S.Q.getLast? with
  | none =>
    rw [hp, ptr_none] at t1
    clear h hp
    go_enter Try.func34, Try.ntmps34
    go_wp2
    go_ret2
    exact ⟨rfl, Same.refl _⟩
  | some p =>
    rw [hp, ptr_some] at t1
    have hE := h.ent p (h.sub p (List.mem_of_getLast? hp))
    unfold TS.ent at hE
    have e0 : w.cell? ⟨S.blk p, 0, none⟩ = some (.string p) := hE.cell 0
    clear h hE hp
    go_enter Try.func34, Try.ntmps34
    go_wp2
    go_ret2
    exact ⟨rfl, Same.refl _⟩

theorem zzOlder_any {w : World} {S : TS} (h : Tok w S) {r : ByteArray} (hr : r ∈ S.K) : Calls Try.prog 32 #[.pointer (some ⟨S.tb, 0, none⟩), .string r] w fun e w' => e = .returned (named (pre S.Q r)) ∧ Same w w' := by
  have t0 : w.cell? ⟨S.tb, 0, none⟩ = some (.map S.mo) := h.hdr.cell 0
  have hrun := h.look r (h.small r hr)
  rw [isIn_yes hr, if_pos rfl] at hrun
  have hE := h.ent r hr
  unfold TS.ent at hE
  have e1 : w.cell? ⟨S.blk r, 4, none⟩ = some (ptr S.blk (pre S.Q r)) := hE.cell 4
  cases hp : pre S.Q r with
  | none =>
    rw [hp, ptr_none] at e1
    clear h hE hp hr
    go_enter Try.func32, Try.ntmps32
    go_wp2
    go_ret2
    exact ⟨rfl, Same.refl _⟩
  | some p =>
    rw [hp, ptr_some] at e1
    have hE2 := h.ent p (h.sub p (pre_mem _ _ _ hp).2)
    unfold TS.ent at hE2
    have e0 : w.cell? ⟨S.blk p, 0, none⟩ = some (.string p) := hE2.cell 0
    clear h hE hE2 hp hr
    go_enter Try.func32, Try.ntmps32
    go_wp2
    go_ret2
    exact ⟨rfl, Same.refl _⟩

theorem zzNewer_any {w : World} {S : TS} (h : Tok w S) {r : ByteArray} (hr : r ∈ S.K) : Calls Try.prog 33 #[.pointer (some ⟨S.tb, 0, none⟩), .string r] w fun e w' => e = .returned (named (suc S.Q r)) ∧ Same w w' := by
  have t0 : w.cell? ⟨S.tb, 0, none⟩ = some (.map S.mo) := h.hdr.cell 0
  have hrun := h.look r (h.small r hr)
  rw [isIn_yes hr, if_pos rfl] at hrun
  have hE := h.ent r hr
  unfold TS.ent at hE
  have e1 : w.cell? ⟨S.blk r, 5, none⟩ = some (ptr S.blk (suc S.Q r)) := hE.cell 5
  cases hp : suc S.Q r with
  | none =>
    rw [hp, ptr_none] at e1
    clear h hE hp hr
    go_enter Try.func33, Try.ntmps33
    go_wp2
    go_ret2
    exact ⟨rfl, Same.refl _⟩
  | some p =>
    rw [hp, ptr_some] at e1
    have hE2 := h.ent p (h.sub p (suc_mem _ _ _ hp).2)
    unfold TS.ent at hE2
    have e0 : w.cell? ⟨S.blk p, 0, none⟩ = some (.string p) := hE2.cell 0
    clear h hE hE2 hp hr
    go_enter Try.func33, Try.ntmps33
    go_wp2
    go_ret2
    exact ⟨rfl, Same.refl _⟩

end Go.Proofs.Qxb6000035a
