/-
  THE GUARDS ON SIZE (7, 18, 21, 26), THE COPIES (8: []uint8, 9: []uint64, 22: []uint16), zzRun (23).
-/
import Derived.Test.Qxb6000727aPieces
set_option linter.unusedSimpArgs false
set_option linter.unusedVariables false
namespace Go.Proofs.Qxb6000727a
open Go.RowKit

/-- It answers some bool, nothing has turned. -/
def AnyB (w : World) (e : Ending) (w' : World) : Prop := ∃ b, e = .returned (.bool b) ∧ w' = w
theorem AnyB.mk (w : World) (b : Bool) : AnyB w (.returned (.bool b)) w := ⟨b, rfl, rfl⟩

def u16At (xs : List Int) (i : Nat) : Value := .int .u16 (xs.getD i 0)
def u32At (xs : List Int) (i : Nat) : Value := .int .u32 (xs.getD i 0)
def u64At (xs : List Int) (i : Nat) : Value := .int .u64 (xs.getD i 0)

theorem Try.info5 : (Try.prog.info? 5).map (fun i => (i.zero, i.size, i.bytes)) = some (some (.int .u8 0), 1, 1) := by kernel_rfl
theorem Try.info48 : (Try.prog.info? 48).map (fun i => (i.zero, i.size, i.bytes)) = some (some (.int .u64 0), 1, 8) := by kernel_rfl
theorem Try.info64 : (Try.prog.info? 64).map (fun i => (i.zero, i.size, i.bytes)) = some (some (.int .u16 0), 1, 2) := by kernel_rfl
theorem Try.info24 : (Try.prog.info? 24).map (fun i => (i.zero, i.size, i.bytes)) = some (some (.int .u32 0), 1, 4) := by kernel_rfl

theorem bytes7_any (a0 : Option Addr) (n0 c0 : Nat) (a1 : Option Addr) (n1 c1 : Nat) (sh : Int) (rv : Bool) (q : Int) (kn : Bool) (w : World) (h0 : n0 ≤ maxLen) (h1 : n1 ≤ maxLen) : Calls Try.prog 7 #[.slice a0 n0 c0, .slice a1 n1 c1, .int .u32 sh, .bool rv, .int .u32 q, .bool kn] w (AnyB w) := by
  unfold maxLen at *
  go_enter Try.func7, Try.ntmps7
  go_wp2
  all_goals (go_ret; exact AnyB.mk _ _)

theorem bytes18_any (a0 : Option Addr) (n0 c0 : Nat) (a1 : Option Addr) (n1 c1 : Nat) (sh : Int) (w : World) (h0 : n0 ≤ maxLen) (h1 : n1 ≤ maxLen) : Calls Try.prog 18 #[.slice a0 n0 c0, .slice a1 n1 c1, .int .u32 sh] w (AnyB w) := by
  unfold maxLen at *
  go_enter Try.func18, Try.ntmps18
  go_wp2
  all_goals (go_ret; exact AnyB.mk _ _)

theorem bytes21_any (a0 : Option Addr) (n0 c0 : Nat) (a1 : Option Addr) (n1 c1 : Nat) (a4 : Option Addr) (n4 c4 : Nat) (sh : Int) (rv : Bool) (w : World) (h0 : n0 ≤ maxLen) (h1 : n1 ≤ maxLen) (h4 : n4 ≤ maxLen) : Calls Try.prog 21 #[.slice a0 n0 c0, .slice a1 n1 c1, .int .u32 sh, .bool rv, .slice a4 n4 c4] w (AnyB w) := by
  unfold maxLen at *
  go_enter Try.func21, Try.ntmps21
  go_wp2
  all_goals (go_ret; exact AnyB.mk _ _)

theorem bytes26_any (a0 : Option Addr) (n0 c0 : Nat) (a1 : Option Addr) (n1 c1 : Nat) (a4 : Option Addr) (n4 c4 : Nat) (sh : Int) (rv nk : Bool) (w : World) (h0 : n0 ≤ maxLen) (h1 : n1 ≤ maxLen) (h4 : n4 ≤ maxLen) : Calls Try.prog 26 #[.slice a0 n0 c0, .slice a1 n1 c1, .int .u32 sh, .bool rv, .slice a4 n4 c4, .bool nk] w (AnyB w) := by
  unfold maxLen at *
  go_enter Try.func26, Try.ntmps26
  go_wp2
  all_goals (go_ret; exact AnyB.mk _ _)

theorem copyU8_any (a : Option Addr) (n c : Nat) (xs : List Int) (w : World) (hr : RowV w a n (u8At xs)) (hnil : a = none → n = 0 ∧ c = 0) (hn : n ≤ 4096) :
    Calls Try.prog 8 #[.slice a n c] w (Copied w n (u8At xs)) := by
  have qn : ∀ (w : World) (a : Option Addr) (n c : Nat), (binOp .eql 22 (.slice a n c) (.slice none 0 0)).run Try.prog w = .ok (.bool a.isNone) w := fun w a n c => Lib.run_eql_slice_nil w _ _ _ _ _ _ _ Try.underlying22
  cases a with
  | none =>
    obtain ⟨rfl, rfl⟩ := hnil rfl
    clear hr hnil
    go_enter Try.func8, Try.ntmps8
    go_wp2
    go_ret
    exact Copied.nil _ _
  | some a =>
    have hmk := run_make_n (P := Try.prog) (t := 22) (e := 5) Try.underlying22 Try.info5 n (by omega) (by omega)
    clear hnil
    go_enter Try.func8, Try.ntmps8
    go_wp2
    go_loopw [4] (fun i wr => ∃ k : Nat, k ≤ n ∧ i = .int .i64 k ∧ Filled wr w.heap.size 5 n k (u8At xs) ∧ Below w.heap.size w wr) (fun i _ => n - (intOf i).toNat)
    case atStart => exact ⟨0, Nat.zero_le _, rfl, Filled.start _ _ _ _ _, (Below.refl _ _).alloc (Nat.le_refl _) _⟩
    case round =>
      obtain ⟨k, hk, rfl, hfl, hbel⟩ := hrel
      clear hmk qn
      by_cases hlt : k < n
      · obtain ⟨b, off, ha, hc⟩ := hr (by omega)
        cases ha
        have hck := hc k hlt
        have hck2 : wr.cell? ⟨b, off + k, none⟩ = some (u8At xs k) := (hbel.cell (by exact World.block_lt_of_cell? w _ hck)).trans hck
        have hst := hide (hfl.step hlt)
        obtain ⟨u, hu⟩ := hfl.cell hlt
        have hfz := hfl.free k
        have hbel' := hide (hbel.setCell (p := ⟨w.heap.size, k, none⟩) (Nat.le_refl _) (u8At xs k))
        unfold u8At at hck2
        clear hck hc hr hfl hbel
        go_wp2
        go_roundw
        case rel => exact ⟨k + 1, by omega, by go_num, hst.out, hbel'.out⟩
        case measure => simp [intOf]; omega
      · have hkn : k = n := by omega
        have hfin := hide (Copied.mk (hkn ▸ hfl) hbel)
        clear hr hfl hbel
        go_wp2
        go_ret
        exact hfin.out

theorem copyU64_any (a : Option Addr) (n c : Nat) (xs : List Int) (w : World) (hr : RowV w a n (u64At xs)) (hnil : a = none → n = 0 ∧ c = 0) (hn : n ≤ 4096) :
    Calls Try.prog 9 #[.slice a n c] w (Copied w n (u64At xs)) := by
  have qn : ∀ (w : World) (a : Option Addr) (n c : Nat), (binOp .eql 23 (.slice a n c) (.slice none 0 0)).run Try.prog w = .ok (.bool a.isNone) w := fun w a n c => Lib.run_eql_slice_nil w _ _ _ _ _ _ _ Try.underlying23
  cases a with
  | none =>
    obtain ⟨rfl, rfl⟩ := hnil rfl
    clear hr hnil
    go_enter Try.func9, Try.ntmps9
    go_wp2
    go_ret
    exact Copied.nil _ _
  | some a =>
    have hmk := run_make_n (P := Try.prog) (t := 23) (e := 48) Try.underlying23 Try.info48 n (by omega) (by omega)
    clear hnil
    go_enter Try.func9, Try.ntmps9
    go_wp2
    go_loopw [4] (fun i wr => ∃ k : Nat, k ≤ n ∧ i = .int .i64 k ∧ Filled wr w.heap.size 48 n k (u64At xs) ∧ Below w.heap.size w wr) (fun i _ => n - (intOf i).toNat)
    case atStart => exact ⟨0, Nat.zero_le _, rfl, Filled.start _ _ _ _ _, (Below.refl _ _).alloc (Nat.le_refl _) _⟩
    case round =>
      obtain ⟨k, hk, rfl, hfl, hbel⟩ := hrel
      clear hmk qn
      by_cases hlt : k < n
      · obtain ⟨b, off, ha, hc⟩ := hr (by omega)
        cases ha
        have hck := hc k hlt
        have hck2 : wr.cell? ⟨b, off + k, none⟩ = some (u64At xs k) := (hbel.cell (by exact World.block_lt_of_cell? w _ hck)).trans hck
        have hst := hide (hfl.step hlt)
        obtain ⟨u, hu⟩ := hfl.cell hlt
        have hfz := hfl.free k
        have hbel' := hide (hbel.setCell (p := ⟨w.heap.size, k, none⟩) (Nat.le_refl _) (u64At xs k))
        unfold u64At at hck2
        clear hck hc hr hfl hbel
        go_wp2
        go_roundw
        case rel => exact ⟨k + 1, by omega, by go_num, hst.out, hbel'.out⟩
        case measure => simp [intOf]; omega
      · have hkn : k = n := by omega
        have hfin := hide (Copied.mk (hkn ▸ hfl) hbel)
        clear hr hfl hbel
        go_wp2
        go_ret
        exact hfin.out

theorem copyU16_any (a : Option Addr) (n c : Nat) (xs : List Int) (w : World) (hr : RowV w a n (u16At xs)) (hnil : a = none → n = 0 ∧ c = 0) (hn : n ≤ 4096) :
    Calls Try.prog 22 #[.slice a n c] w (Copied w n (u16At xs)) := by
  have qn : ∀ (w : World) (a : Option Addr) (n c : Nat), (binOp .eql 43 (.slice a n c) (.slice none 0 0)).run Try.prog w = .ok (.bool a.isNone) w := fun w a n c => Lib.run_eql_slice_nil w _ _ _ _ _ _ _ Try.underlying43
  cases a with
  | none =>
    obtain ⟨rfl, rfl⟩ := hnil rfl
    clear hr hnil
    go_enter Try.func22, Try.ntmps22
    go_wp2
    go_ret
    exact Copied.nil _ _
  | some a =>
    have hmk := run_make_n (P := Try.prog) (t := 43) (e := 64) Try.underlying43 Try.info64 n (by omega) (by omega)
    clear hnil
    go_enter Try.func22, Try.ntmps22
    go_wp2
    go_loopw [4] (fun i wr => ∃ k : Nat, k ≤ n ∧ i = .int .i64 k ∧ Filled wr w.heap.size 64 n k (u16At xs) ∧ Below w.heap.size w wr) (fun i _ => n - (intOf i).toNat)
    case atStart => exact ⟨0, Nat.zero_le _, rfl, Filled.start _ _ _ _ _, (Below.refl _ _).alloc (Nat.le_refl _) _⟩
    case round =>
      obtain ⟨k, hk, rfl, hfl, hbel⟩ := hrel
      clear hmk qn
      by_cases hlt : k < n
      · obtain ⟨b, off, ha, hc⟩ := hr (by omega)
        cases ha
        have hck := hc k hlt
        have hck2 : wr.cell? ⟨b, off + k, none⟩ = some (u16At xs k) := (hbel.cell (by exact World.block_lt_of_cell? w _ hck)).trans hck
        have hst := hide (hfl.step hlt)
        obtain ⟨u, hu⟩ := hfl.cell hlt
        have hfz := hfl.free k
        have hbel' := hide (hbel.setCell (p := ⟨w.heap.size, k, none⟩) (Nat.le_refl _) (u16At xs k))
        unfold u16At at hck2
        clear hck hc hr hfl hbel
        go_wp2
        go_roundw
        case rel => exact ⟨k + 1, by omega, by go_num, hst.out, hbel'.out⟩
        case measure => simp [intOf]; omega
      · have hkn : k = n := by omega
        have hfin := hide (Copied.mk (hkn ▸ hfl) hbel)
        clear hr hfl hbel
        go_wp2
        go_ret
        exact hfin.out

/-! ### zzRun: the running sums -/
def sumTo (xs : List Int) : Nat → Int
  | 0 => 0
  | k + 1 => sumTo xs k + xs.getD k 0
def sums (xs : List Int) : List Int := (List.range xs.length).map fun i => sumTo xs (i + 1)

theorem sumTo_bd (xs : List Int) (h : ∀ i, 0 ≤ xs.getD i 0 ∧ xs.getD i 0 ≤ 65535) : ∀ k, 0 ≤ sumTo xs k ∧ sumTo xs k ≤ 65535 * k
  | 0 => by simp [sumTo]
  | k + 1 => by
    have h1 := sumTo_bd xs h k
    have h2 := h k
    simp only [sumTo]
    omega
theorem sumTo_mono (xs : List Int) (h : ∀ i, 0 ≤ xs.getD i 0 ∧ xs.getD i 0 ≤ 65535) (a : Nat) : ∀ d, sumTo xs a ≤ sumTo xs (a + d)
  | 0 => Int.le_refl _
  | d + 1 => by
    have h1 := sumTo_mono xs h a d
    have h2 := h (a + d)
    show _ ≤ sumTo xs (a + d) + xs.getD (a + d) 0
    omega
theorem sums_at (xs : List Int) (i : Nat) (h : i < xs.length) : (sums xs).getD i 0 = sumTo xs (i + 1) := by simp [sums, List.getD, h]

theorem run_any (a : Option Addr) (n c : Nat) (xs : List Int) (w : World) (hr : RowV w a n (u16At xs)) (hl : xs.length = n) (hb : ∀ i, 0 ≤ xs.getD i 0 ∧ xs.getD i 0 ≤ 65535) (hn : n ≤ 4096) :
    Calls Try.prog 23 #[.slice a n c] w (Copied w n (u32At (sums xs))) := by
  have hmk := run_make_n (P := Try.prog) (t := 46) (e := 24) Try.underlying46 Try.info24 n (by omega) (by omega)
  have HB := hide hb
  have HL := hide hl
  clear hb hl
  go_enter Try.func23, Try.ntmps23
  go_wp2
  go_loopw [4, 5] (fun s i wr => ∃ k : Nat, k ≤ n ∧ i = .int .i64 k ∧ s = .int .u32 (sumTo xs k) ∧ Filled wr w.heap.size 24 n k (u32At (sums xs)) ∧ Below w.heap.size w wr) (fun _ i _ => n - (intOf i).toNat)
  case atStart => exact ⟨0, Nat.zero_le _, rfl, rfl, Filled.start _ _ _ _ _, (Below.refl _ _).alloc (Nat.le_refl _) _⟩
  case round =>
    obtain ⟨k, hk, rfl, rfl, hfl, hbel⟩ := hrel
    clear hmk
    by_cases hlt : k < n
    · obtain ⟨b, off, ha, hc⟩ := hr (by omega)
      cases ha
      have hck := hc k hlt
      have hck2 : wr.cell? ⟨b, off + k, none⟩ = some (u16At xs k) := (hbel.cell (by exact World.block_lt_of_cell? w _ hck)).trans hck
      have hst := hfl.step hlt
      have hsm : u32At (sums xs) k = .int .u32 (sumTo xs k + xs.getD k 0) := by unfold u32At; rw [sums_at xs k (by rw [HL.out]; exact hlt)]; rfl
      have hnx : sumTo xs (k + 1) = sumTo xs k + xs.getD k 0 := rfl
      rw [hsm] at hst
      obtain ⟨u, hu⟩ := hfl.cell hlt
      have hfz := hfl.free k
      have hbel' := hbel.setCell (p := ⟨w.heap.size, k, none⟩) (Nat.le_refl _) (u32At (sums xs) k)
      rw [hsm] at hbel'
      unfold u16At at hck2
      obtain ⟨s0, s1⟩ := sumTo_bd xs HB.out k
      obtain ⟨x0, x1⟩ := HB.out k
      generalize xs.getD k 0 = x at hck2 hst hnx x0 x1 hbel'
      generalize sumTo xs k = s at hst hnx s0 s1 hbel'
      have HST := hide hst
      have HBL := hide hbel'
      have HNX := hide hnx
      have hs2 : s ≤ 300000000 := by omega
      clear hck hc hr hfl hbel hst hbel' hnx hsm s1
      go_wp2
      go_roundw
      case rel => exact ⟨k + 1, by omega, by go_num, by rw [HNX.out], HST.out, HBL.out⟩
      case measure => simp [intOf]; omega
    · have hkn : k = n := by omega
      have hfin := hide (Copied.mk (hkn ▸ hfl) hbel)
      clear hr hfl hbel
      go_wp2
      go_ret
      exact hfin.out

end Go.Proofs.Qxb6000727a
