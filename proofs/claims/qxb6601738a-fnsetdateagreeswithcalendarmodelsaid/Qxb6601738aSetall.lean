/-
  (*dateFields).setDate (26): all cases; the array to the struct (25) and back (27); the text's year (28); the civil count (29).
-/
import Derived.Test.Qxb6601738aSetr
set_option linter.unusedSimpArgs false
set_option linter.unusedVariables false
namespace Go.Proofs.Qxb6601738a
open Go.RowKit

set_option maxHeartbeats 1000000 in
theorem set_ref_d {w : World} {b : Nat} {f : P8} (hb : Blk w b f.arr 45) (yr mo d : Int) (ra : Addr) (now : Int) (hm0 : 1 ≤ mo) (hm1 : mo ≤ 12) (hd0 : 1 ≤ d) (hd1 : d ≤ 31) (h1 : 38 ≤ yr) (h2 : yr ≤ 70) :
    Calls Try.prog 26 #[.pointer (some ⟨b, 0, none⟩), .int .i32 yr, .int .i32 mo, .int .i32 d, .pointer (some ra), .int .i64 now] w (SetAt w b (f, -1)) := by
  obtain ⟨k0, k1, k2, k3, k4, k5, k6, k7⟩ := P8.cell hb
  have hl := hb.lt
  have HB := hide hb
  have f0 : decide (mo ≤ 0) = false := by simp; omega
  have f1 : decide (13 ≤ mo) = false := by simp; omega
  have f2 : decide (d ≤ 0) = false := by simp; omega
  have f3 : decide (32 ≤ d) = false := by simp; omega
  have e1 : (yr == -1) = false := by simp; omega
  have g1 : decide (1970 ≤ yr) = false := by simp; omega
  have g3 : decide (70 < yr) = false := by simp; omega
  have g5 : decide (yr < 38) = false := by simp; omega
  clear hb
  go_enter Try.func26, Try.ntmps26
  go_wp2
  go_ret
  exact SetAt.mk (r := (f, -1)) (HB.out.alloc _) ((Fr.refl _ _).alloc _)

set_option maxHeartbeats 1000000 in
theorem set_ref_e {w : World} {b : Nat} {f : P8} (hb : Blk w b f.arr 45) (yr mo d : Int) (ra : Addr) (now : Int) (hm0 : 1 ≤ mo) (hm1 : mo ≤ 12) (hd0 : 1 ≤ d) (hd1 : d ≤ 31) (h1 : 100 ≤ yr) (h2 : yr < 1970) :
    Calls Try.prog 26 #[.pointer (some ⟨b, 0, none⟩), .int .i32 yr, .int .i32 mo, .int .i32 d, .pointer (some ra), .int .i64 now] w (SetAt w b (f, -1)) := by
  obtain ⟨k0, k1, k2, k3, k4, k5, k6, k7⟩ := P8.cell hb
  have hl := hb.lt
  have HB := hide hb
  have f0 : decide (mo ≤ 0) = false := by simp; omega
  have f1 : decide (13 ≤ mo) = false := by simp; omega
  have f2 : decide (d ≤ 0) = false := by simp; omega
  have f3 : decide (32 ≤ d) = false := by simp; omega
  have e1 : (yr == -1) = false := by simp; omega
  have g1 : decide (1970 ≤ yr) = false := by simp; omega
  have g3 : decide (70 < yr) = true := by simp; omega
  have g4 : decide (yr < 100) = false := by simp; omega
  have g5 : decide (yr < 38) = false := by simp; omega
  clear hb
  go_enter Try.func26, Try.ntmps26
  go_wp2
  go_ret
  exact SetAt.mk (r := (f, -1)) (HB.out.alloc _) ((Fr.refl _ _).alloc _)

set_option maxHeartbeats 1000000 in
theorem set_ref_g {w : World} {b : Nat} {f : P8} (hb : Blk w b f.arr 45) (yr mo d : Int) (ra : Addr) (now : Int) (hm0 : 1 ≤ mo) (hm1 : mo ≤ 12) (hd0 : 1 ≤ d) (hd1 : d ≤ 31) (h1 : 2100 ≤ yr) (h2 : yr ≤ 2147483647) :
    Calls Try.prog 26 #[.pointer (some ⟨b, 0, none⟩), .int .i32 yr, .int .i32 mo, .int .i32 d, .pointer (some ra), .int .i64 now] w (SetAt w b (f, -1)) := by
  obtain ⟨k0, k1, k2, k3, k4, k5, k6, k7⟩ := P8.cell hb
  have hl := hb.lt
  have HB := hide hb
  have f0 : decide (mo ≤ 0) = false := by simp; omega
  have f1 : decide (13 ≤ mo) = false := by simp; omega
  have f2 : decide (d ≤ 0) = false := by simp; omega
  have f3 : decide (32 ≤ d) = false := by simp; omega
  have e1 : (yr == -1) = false := by simp; omega
  have g1 : decide (1970 ≤ yr) = true := by simp; omega
  have g2 : decide (yr < 2100) = false := by simp; omega
  have g3 : decide (70 < yr) = true := by simp; omega
  have g4 : decide (yr < 100) = false := by simp; omega
  have g5 : decide (yr < 38) = false := by simp; omega
  clear hb
  go_enter Try.func26, Try.ntmps26
  go_wp2
  go_ret
  exact SetAt.mk (r := (f, -1)) (HB.out.alloc _) ((Fr.refl _ _).alloc _)

theorem I32.lo {x : Int} (h : I32 x) : -2147483648 ≤ x := h.1
theorem I32.hi {x : Int} (h : I32 x) : x ≤ 2147483647 := h.2

theorem setNil_any {w : World} {b : Nat} {f : P8} (hb : Blk w b f.arr 45) (yr mo d : Int) (now : Int) (hy : I32 yr) (hm : I32 mo) (hd : I32 d) :
    Calls Try.prog 26 #[.pointer (some ⟨b, 0, none⟩), .int .i32 yr, .int .i32 mo, .int .i32 d, .pointer none, .int .i64 now] w (SetAt w b (setNil f yr mo d)) := by
  unfold setNil
  by_cases hbad : mo < 1 ∨ 12 < mo ∨ d < 1 ∨ 31 < d
  · rw [if_pos hbad]; exact set_bad hb yr mo d none now hm hd hbad
  rw [if_neg hbad]
  by_cases h1 : yr = -1
  · rw [if_pos h1]; subst h1; exact set_nil_one hb mo d now (by omega) (by omega) (by omega) (by omega)
  rw [if_neg h1]
  have y0 := hy.lo
  have y1 := hy.hi
  unfold yearOf
  by_cases ha : 1970 ≤ yr ∧ yr < 2100
  · rw [if_pos ha]; exact set_nil_a hb yr mo d now (by omega) (by omega) (by omega) (by omega) ha.1 ha.2
  rw [if_neg ha]
  by_cases hb2 : 70 < yr ∧ yr < 100
  · rw [if_pos hb2]; exact set_nil_b hb yr mo d now (by omega) (by omega) (by omega) (by omega) hb2.1 hb2.2
  rw [if_neg hb2]
  by_cases hc : yr < 38
  · rw [if_pos hc]; exact set_nil_c hb yr mo d now (by omega) (by omega) (by omega) (by omega) y0 hc h1
  rw [if_neg hc]
  by_cases hx : yr ≤ 70
  · exact set_nil_d hb yr mo d now (by omega) (by omega) (by omega) (by omega) (by omega) hx
  by_cases hz : yr < 1970
  · exact set_nil_e hb yr mo d now (by omega) (by omega) (by omega) (by omega) (by omega) hz
  exact set_nil_g hb yr mo d now (by omega) (by omega) (by omega) (by omega) (by omega) y1

theorem setRef_any {w : World} {b rb : Nat} {f : P8} (ok : f.ok) (hb : Blk w b f.arr 45) (yr mo d ry : Int) (now : Int) (hr : w.cell? ⟨rb, 0, none⟩ = some (.int .i32 ry)) (hry : I32 ry) (hy : I32 yr) (hm : I32 mo) (hd : I32 d) (hn0 : -9223372036854775808 ≤ now) (hn1 : now ≤ 9223372036853911807) :
    Calls Try.prog 26 #[.pointer (some ⟨b, 0, none⟩), .int .i32 yr, .int .i32 mo, .int .i32 d, .pointer (some ⟨rb, 0, none⟩), .int .i64 now] w (SetAt w b (setRef f yr mo d ry now)) := by
  unfold setRef
  by_cases hbad : mo < 1 ∨ 12 < mo ∨ d < 1 ∨ 31 < d
  · rw [if_pos hbad]; exact set_bad hb yr mo d _ now hm hd hbad
  rw [if_neg hbad]
  by_cases h1 : yr = -1
  · rw [if_pos h1]; subst h1; exact set_ref_m ok hb ry mo d now hr hry (by omega) (by omega) (by omega) (by omega) hn0 hn1
  rw [if_neg h1]
  have y0 := hy.lo
  have y1 := hy.hi
  unfold yearOf
  by_cases ha : 1970 ≤ yr ∧ yr < 2100
  · rw [if_pos ha]; exact set_ref_a ok hb yr ry mo d now hr hry (by omega) (by omega) (by omega) (by omega) hn0 hn1 ha.1 ha.2
  rw [if_neg ha]
  by_cases hb2 : 70 < yr ∧ yr < 100
  · rw [if_pos hb2]; exact set_ref_b ok hb yr ry mo d now hr hry (by omega) (by omega) (by omega) (by omega) hn0 hn1 hb2.1 hb2.2
  rw [if_neg hb2]
  by_cases hc : yr < 38
  · rw [if_pos hc]; exact set_ref_c ok hb yr ry mo d now hr hry (by omega) (by omega) (by omega) (by omega) hn0 hn1 y0 hc h1
  rw [if_neg hc]
  by_cases hx : yr ≤ 70
  · exact set_ref_d hb yr mo d _ now (by omega) (by omega) (by omega) (by omega) (by omega) hx
  by_cases hz : yr < 1970
  · exact set_ref_e hb yr mo d _ now (by omega) (by omega) (by omega) (by omega) (by omega) hz
  exact set_ref_g hb yr mo d _ now (by omega) (by omega) (by omega) (by omega) (by omega) y1

end Go.Proofs.Qxb6601738a
