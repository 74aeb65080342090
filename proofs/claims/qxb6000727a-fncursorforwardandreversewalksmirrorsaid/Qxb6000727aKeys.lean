/-
  KEYS IN MEMORY: bytes.Compare (36) by the model's own entry, zzEnc (14).
-/
import Derived.Lib.BytesEntry
import Derived.Test.Qxb6000727aPlain
import Derived.Test.Qxb6000727aBase
set_option linter.unusedSimpArgs false
set_option linter.unusedVariables false
namespace Go.Proofs.Qxb6000727a
open Go.RowKit

theorem ba_get (l : List UInt8) (i : Nat) : (⟨l.toArray⟩ : ByteArray)[i]! = l.getD i default := by
  by_cases h : i < l.length
  · rw [getElem!_pos _ i (by simpa [ByteArray.size] using h)]
    simp [List.getD, h]
    rfl
  · rw [getElem!_neg _ i (by simpa [ByteArray.size] using h)]
    simp [List.getD, List.getElem?_eq_none (by omega : l.length ≤ i)]

/-- The comparison over lists of bytes, in the model's own words. -/
def cmpM (l m : List UInt8) : Int :=
  match (List.range (min l.length m.length)).find? fun i => l.getD i default != m.getD i default with
  | some i => if l.getD i default < m.getD i default then -1 else 1
  | none => if l.length < m.length then -1 else if l.length > m.length then 1 else 0

theorem cmp_cmpM (l m : List UInt8) : Extern.BytealgCompare.cmp ⟨l.toArray⟩ ⟨m.toArray⟩ = cmpM l m := by
  unfold Extern.BytealgCompare.cmp cmpM
  simp only [ba_get]
  rfl

theorem cmpM_cons (x y : UInt8) (l m : List UInt8) : cmpM (x :: l) (y :: m) = if x < y then -1 else if y < x then 1 else cmpM l m := by
  unfold cmpM
  rw [List.length_cons, List.length_cons, Nat.add_min_add_right, List.range_succ_eq_map, List.find?_cons]
  by_cases e : x = y
  · subst e
    simp only [List.getD_cons_zero, bne_self_eq_false, Bool.false_eq_true, if_false, UInt8.lt_irrefl]
    rw [List.find?_map]
    have e2 : ((fun i => (x :: l).getD i default != (x :: m).getD i default) ∘ Nat.succ) = fun i => l.getD i default != m.getD i default := by
      funext i; simp
    rw [e2]
    cases (List.range (min l.length m.length)).find? (fun i => l.getD i default != m.getD i default) with
    | none => simp
    | some i => simp
  · have hb : (x != y) = true := by simp [e]
    simp only [List.getD_cons_zero, hb]
    by_cases hlt : x < y
    · simp [hlt]
    · have hgt : y < x := by
        rcases UInt8.lt_or_lt_of_ne e with q | q
        · exact absurd q hlt
        · exact q
      simp [hlt, hgt]

theorem byte_lt {a b : Int} (ha0 : 0 ≤ a) (ha : a < 256) (hb0 : 0 ≤ b) (hb : b < 256) : a.toNat.toUInt8 < b.toNat.toUInt8 ↔ a < b := by
  rw [UInt8.lt_iff_toNat_lt]
  have h1 : a.toNat.toUInt8.toNat = a.toNat := by simp; omega
  have h2 : b.toNat.toUInt8.toNat = b.toNat := by simp; omega
  rw [h1, h2]; omega

theorem cmpM_cmpL : ∀ (xs ys : List Int), (∀ x ∈ xs, 0 ≤ x ∧ x < 256) → (∀ y ∈ ys, 0 ≤ y ∧ y < 256) → cmpM (Lib.bytesOf xs) (Lib.bytesOf ys) = cmpL xs ys
  | [], [], _, _ => by simp [cmpM, cmpL, Lib.bytesOf]
  | [], y :: ys, _, _ => by simp [cmpM, cmpL, Lib.bytesOf]
  | x :: xs, [], _, _ => by simp [cmpM, cmpL, Lib.bytesOf]
  | x :: xs, y :: ys, hx, hy => by
    have ih := cmpM_cmpL xs ys (fun z hz => hx z (List.mem_cons_of_mem _ hz)) (fun z hz => hy z (List.mem_cons_of_mem _ hz))
    have h1 := hx x (by simp)
    have h2 := hy y (by simp)
    have e1 : Lib.bytesOf (x :: xs) = x.toNat.toUInt8 :: Lib.bytesOf xs := rfl
    have e2 : Lib.bytesOf (y :: ys) = y.toNat.toUInt8 :: Lib.bytesOf ys := rfl
    rw [e1, e2, cmpM_cons, ih]
    simp only [cmpL, byte_lt h1.1 h1.2 h2.1 h2.2, byte_lt h2.1 h2.2 h1.1 h1.2]

def u8At (xs : List Int) (i : Nat) : Value := .int .u8 (xs.getD i 0)

/-- A key in memory: a slice of bytes. -/
structure KeyIn (w : World) (a : Option Addr) (n : Nat) (xs : List Int) : Prop where
  row : RowV w a n (u8At xs)
  len : xs.length = n
  byte : ∀ x ∈ xs, 0 ≤ x ∧ x < 256

theorem KeyIn.load {w : World} {a : Option Addr} {n : Nat} {xs : List Int} (h : KeyIn w a n xs) (P : Program) (c : Nat) : (Extern.Bytes.bytesOf (.slice a n c)).run P w = .ok ⟨(Lib.bytesOf xs).toArray⟩ w := by
  have hl := h.len
  rcases Nat.eq_zero_or_pos n with h0 | hpos
  · subst h0
    have hx : xs = [] := List.eq_nil_of_length_eq_zero hl
    subst hx
    cases a with
    | none => rfl
    | some a => simp [Extern.Bytes.bytesOf, Extern.Bytes.loadBytes, Lib.bytesOf]; rfl
  · obtain ⟨b, off, rfl, hc⟩ := h.row hpos
    have hr := Lib.run_loadBytesX (P := P) w xs ⟨b, off, none⟩ .empty (fun j x hj => by
      have hjl : j < xs.length := (List.getElem?_eq_some_iff.1 hj).1
      have e : (⟨b, off, none⟩ : Addr).add j = ⟨b, off + j, none⟩ := by unfold Addr.add; split <;> simp_all
      rw [e, hc j (by omega)]
      simp [u8At, List.getD, hj])
    rw [hl] at hr
    simp only [Extern.Bytes.bytesOf, hr]
    congr 1
    apply ByteArray.ext
    show (#[] : Array UInt8) ++ (Lib.bytesOf xs).toArray = (Lib.bytesOf xs).toArray
    simp

theorem run_compare {w : World} {a1 : Option Addr} {n1 c1 : Nat} {xs : List Int} {a2 : Option Addr} {n2 c2 : Nat} {ys : List Int} (h1 : KeyIn w a1 n1 xs) (h2 : KeyIn w a2 n2 ys) :
    (callFunc 39 #[.slice a1 n1 c1, .slice a2 n2 c2]).run Try.prog w = .ok (.value (.int .i64 (cmpL xs ys))) w := by
  rw [run_callFunc_extern (e := Extern.BytealgCompare.compare) Try.func39 (by kernel_rfl) (by kernel_rfl) (by kernel_rfl) (by kernel_rfl)]
  have e : (Extern.BytealgCompare.compare #[.slice a1 n1 c1, .slice a2 n2 c2]).run Try.prog w = .ok (.int .i64 (cmpL xs ys)) w := by
    show Sem.run Try.prog (do
      let x ← Extern.Bytes.bytesOf (.slice a1 n1 c1)
      let y ← Extern.Bytes.bytesOf (.slice a2 n2 c2)
      pure (goInt (Extern.BytealgCompare.cmp x y))) w = _
    simp only [Sem.run_bind, h1.load Try.prog c1, h2.load Try.prog c2, Result.andThen_ok, Sem.run_pure]
    rw [cmp_cmpM, cmpM_cmpL xs ys h1.byte h2.byte]
    rfl
  rw [e]
  rfl

theorem compare_any {w : World} {a1 : Option Addr} {n1 c1 : Nat} {xs : List Int} {a2 : Option Addr} {n2 c2 : Nat} {ys : List Int} (h1 : KeyIn w a1 n1 xs) (h2 : KeyIn w a2 n2 ys) :
    Calls Try.prog 36 #[.slice a1 n1 c1, .slice a2 n2 c2] w fun e w' => e = .returned (.int .i64 (cmpL xs ys)) ∧ w' = w := by
  have hr := run_compare (c1 := c1) (c2 := c2) h1 h2
  clear h1 h2
  go_enter Try.func36, Try.ntmps36
  go_wp2
  go_ret
  exact ⟨rfl, rfl⟩

/-! ### zzEnc -/
def encA (v : Int) : Array Value := ((enc v).map (Value.int .u8)).toArray

theorem enc_any (w : World) (v : Int) (h0 : 0 ≤ v) (h1 : v ≤ 4294967295) :
    Calls Try.prog 14 #[.int .u32 v] w fun e w' => e = .returned (.slice (some ⟨w.heap.size, 0, none⟩) (enc v).length (enc v).length) ∧ w' = w.alloc (.cells (encA v) 5) := by
  have m0 : ∀ w, (Instr.makeSlice 22 (.int .i64 0) (.int .i64 0)).run Try.prog w = .ok (.slice (some ⟨w.heap.size, 0, none⟩) 0 0) (w.alloc (.cells #[] 5)) := fun w => by kernel_rfl
  have m1 : ∀ w, (Instr.makeSlice 22 (.int .i64 1) (.int .i64 1)).run Try.prog w = .ok (.slice (some ⟨w.heap.size, 0, none⟩) 1 1) (w.alloc (.cells #[.int .u8 0] 5)) := fun w => by kernel_rfl
  have m2 : ∀ w, (Instr.makeSlice 22 (.int .i64 2) (.int .i64 2)).run Try.prog w = .ok (.slice (some ⟨w.heap.size, 0, none⟩) 2 2) (w.alloc (.cells #[.int .u8 0, .int .u8 0] 5)) := fun w => by kernel_rfl
  have m3 : ∀ w, (Instr.makeSlice 22 (.int .i64 3) (.int .i64 3)).run Try.prog w = .ok (.slice (some ⟨w.heap.size, 0, none⟩) 3 3) (w.alloc (.cells #[.int .u8 0, .int .u8 0, .int .u8 0] 5)) := fun w => by kernel_rfl
  have m4 : ∀ w, (Instr.makeSlice 22 (.int .i64 4) (.int .i64 4)).run Try.prog w = .ok (.slice (some ⟨w.heap.size, 0, none⟩) 4 4) (w.alloc (.cells #[.int .u8 0, .int .u8 0, .int .u8 0, .int .u8 0] 5)) := fun w => by kernel_rfl
  by_cases e3 : v % 256 = 0
  · have b3 : (v % 256 == 0) = true := by simp [e3]
    by_cases e2 : v / 256 % 256 = 0
    · have b2 : (v / 256 % 256 == 0) = true := by simp [e2]
      by_cases e1 : v / 65536 % 256 = 0
      · have b1 : (v / 65536 % 256 == 0) = true := by simp [e1]
        by_cases e0 : v / 16777216 = 0
        · have b0 : (v / 16777216 == 0) = true := by simp [e0]
          have ee : enc v = [] := by unfold enc; rw [if_pos e3, if_pos e2, if_pos e1, if_pos e0]
          unfold encA
          rw [ee]
          clear ee e3 e2 e1 e0
          go_enter Try.func14, Try.ntmps14
          go_wp2
          go_ret
          exact ⟨rfl, rfl⟩
        · have b0 : (v / 16777216 == 0) = false := by simp [e0]
          have ee : enc v = [v / 16777216] := by unfold enc; rw [if_pos e3, if_pos e2, if_pos e1, if_neg e0]
          unfold encA
          rw [ee]
          clear ee e3 e2 e1 e0
          go_enter Try.func14, Try.ntmps14
          go_wp2
          go_ret
          exact ⟨rfl, rfl⟩
      · have b1 : (v / 65536 % 256 == 0) = false := by simp [e1]
        have ee : enc v = [v / 16777216, v / 65536 % 256] := by unfold enc; rw [if_pos e3, if_pos e2, if_neg e1]
        unfold encA
        rw [ee]
        clear ee e3 e2 e1
        go_enter Try.func14, Try.ntmps14
        go_wp2
        go_ret
        exact ⟨rfl, rfl⟩
    · have b2 : (v / 256 % 256 == 0) = false := by simp [e2]
      have ee : enc v = [v / 16777216, v / 65536 % 256, v / 256 % 256] := by unfold enc; rw [if_pos e3, if_neg e2]
      unfold encA
      rw [ee]
      clear ee e3 e2
      go_enter Try.func14, Try.ntmps14
      go_wp2
      go_ret
      exact ⟨rfl, rfl⟩
  · have b3 : (v % 256 == 0) = false := by simp [e3]
    have ee : enc v = [v / 16777216, v / 65536 % 256, v / 256 % 256, v % 256] := by unfold enc; rw [if_neg e3]
    unfold encA
    rw [ee]
    clear ee e3
    go_enter Try.func14, Try.ntmps14
    go_wp2
    go_ret
    exact ⟨rfl, rfl⟩

/-- A key that lies in a block of its own. -/
theorem KeyIn.of_blk {w : World} {g : Nat} {v : Int} (h : Blk w g (encA v) 5) (h0 : 0 ≤ v) (h1 : v ≤ 4294967295) : KeyIn w (some ⟨g, 0, none⟩) (enc v).length (enc v) := by
  refine ⟨fun _ => ⟨g, 0, rfl, fun i hi => ?_⟩, rfl, enc_byte v h0 h1⟩
  rw [Nat.zero_add, h.cell]
  simp [encA, u8At, List.getD, hi]

end Go.Proofs.Qxb6000727a
