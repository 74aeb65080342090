/-
  FnSetDateAgreesWithCalendarModel: the statement, from its walk.
-/
import Derived.Test.Qxb6601738aRows
import Derived.WalkKit
import Derived.ProofKit
import Derived.OpenShut
import Derived.ShutString
import Derived.ChangeOld
import Derived.Below
import Derived.Test.Qxb6601738aArgs
import Derived.Test.Qxb6601738aLaw4
namespace Go.Proofs.Qxb6601738a.fnSetDateAgreesWithCalendarModel
open Go.ChangeShapes Go.WideShapes Go.ChangeAt Go.RowKit
set_option linter.unusedVariables false

theorem own : ownKnob Try.prog.godebug = none := by kernel_rfl
theorem laidOut : laidOutB Try.prog = true := by kernel_rfl
theorem cells26 : Try.prog.cellsOf 26 = 8 := by kernel_rfl
theorem cells21 : Try.prog.cellsOf 21 = 1 := by kernel_rfl

/-- The reference that came in: nil, or eight cells. -/
def RefIn (w : World) (p : Option Addr) : Prop :=
  p = none ∨ ∃ (b off : Nat) (g : P8), p = some ⟨b, off, none⟩ ∧ g.ok ∧ ∀ i, i < 8 → w.cell? ⟨b, off + i, none⟩ = g.arr[i]?

theorem walk (f : P8) (ok : f.ok) (yr mo d : Int) (p : Option Addr) (now : Int) (w : World) (hy : (Lit.int .i32 yr).wf = true) (hm : (Lit.int .i32 mo).wf = true) (hd : (Lit.int .i32 d).wf = true) (hp : RefIn w p) (hn : (Lit.int .i64 now).wf = true) :
    Calls Try.prog 4 #[.agg f.arr, .int .i32 yr, .int .i32 mo, .int .i32 d, .pointer p, .int .i64 now] w fun e w' => e = .returned (.bool true) ∧ Below w.heap.size w w' := by
  have hnb := bounds_i64 hn
  rcases hp with rfl | ⟨b, off, g, rfl, hg, hc⟩
  · exact law4_nil w f yr mo d now (I32.of_wf hy) (I32.of_wf hm) (I32.of_wf hd) hnb.1 hnb.2
  · exact law4_ref w f g ok hg yr mo d now (I32.of_wf hy) (I32.of_wf hm) (I32.of_wf hd) hnb.1 hnb.2 b off hc

set_option maxRecDepth 100000 in
theorem lifted (os : Os) (started : os.Started) (H : Type) (enc : TypeId × Value → H) :
    ReturnsInHanded {} Try.checked os 4 .any (Rows.fnSetDateAgreesWithCalendarModelSpec.pre6 enc Try.prog Try.f4 Rows.fnSetDateAgreesWithCalendarModelRow.domain false) (Rows.fnSetDateAgreesWithCalendarModelSpec.post enc Try.prog Try.f4 false true false false) := by
  refine returnsInHanded_of_change (C := Try.checked) own started (by kernel_rfl) Try.func4
    (ChangeSpec.witness6 (enc := enc) (C := Try.checked) false ⟨#[], #[.agg #[.int .i32 0, .int .i32 0, .int .i32 0, .int .i32 0, .int .i32 0, .int .i32 0, .int .i32 0, .int .i32 0], .int .i32 0, .int .i32 0, .int .i32 0, .pointer none, .int .i64 0], []⟩ 8 (by kernel_rfl) (by kernel_rfl) (by kernel_rfl) (by kernel_rfl)) ?_
  intro W base args ds gs before hval0 hW hcnd _
  have hval : ∀ (j : Nat) t v, Try.f4.params[j]? = some t → args[j]? = some v → Value.okWide Try.prog W .any base t v := hval0
  have hW' := hW
  obtain ⟨p, q, hA0, hV, rfl, hfz, hnd⟩ := hW
  have hA : DataW.TrodAll enc Try.prog W 0 (fun _ => true) true Try.f4.params.toList args.toList ds p := hA0
  rw [Try.params4] at hA hval
  obtain ⟨v0, vs0, d0, ds0, p0, q0, hargs, rfl, rfl, h0, r0⟩ := trodAll_cons hA
  obtain ⟨v1, vs1, d1, ds1, p1, q1, rfl, rfl, rfl, h1, r1⟩ := trodAll_cons r0
  obtain ⟨v2, vs2, d2, ds2, p2, q2, rfl, rfl, rfl, h2, r2⟩ := trodAll_cons r1
  obtain ⟨v3, vs3, d3, ds3, p3, q3, rfl, rfl, rfl, h3, r3⟩ := trodAll_cons r2
  obtain ⟨v4, vs4, d4, ds4, p4, q4, rfl, rfl, rfl, h4, r4⟩ := trodAll_cons r3
  obtain ⟨v5, vs5, d5, ds5, p5, q5, rfl, rfl, rfl, h5, r5⟩ := trodAll_cons r4
  obtain ⟨rfl, rfl, rfl⟩ := trodAll_nil r5
  obtain rfl : args = #[v0, v1, v2, v3, v4, v5] := by cases args; simp_all
  obtain ⟨rfl, rfl⟩ := trodVars_none hV
  obtain ⟨cs, rfl, hsz⟩ : ∃ cs, v0 = .agg cs ∧ cs.size = Try.prog.cellsOf 26 := by
    have h := hval 0 26 v0 rfl rfl
    simp only [Value.okWide, Try.underlying26] at h
    obtain ⟨cs, e1, e2, _⟩ := h
    exact ⟨cs, e1, e2⟩
  have k0 := h0
  have lt0 : ∀ x ∈ p0, x.block < W.heap.size := by obtain ⟨m, hm⟩ := k0; exact DataW.trod_lt m _ _ _ hm
  obtain ⟨f, okf, rfl⟩ : ∃ f : P8, f.ok ∧ cs = f.arr := by
    obtain ⟨fuel, hf⟩ := h0
    obtain ⟨f, okf, e⟩ := eight Try.underlying26 Try.underlying21 cells21 (by rw [cells26] at hsz; simpa [Value.cells] using hsz) hf
    exact ⟨f, okf, by simpa [Value.cells] using congrArg List.toArray e⟩
  obtain ⟨a1, rfl, rfl, rfl, w1⟩ := open_int Try.underlying21 (hval 1 21 v1 rfl rfl) h1
  obtain ⟨a2, rfl, rfl, rfl, w2⟩ := open_int Try.underlying21 (hval 2 21 v2 rfl rfl) h2
  obtain ⟨a3, rfl, rfl, rfl, w3⟩ := open_int Try.underlying21 (hval 3 21 v3 rfl rfl) h3
  have k4 := h4
  have lt4 : ∀ x ∈ p4, x.block < W.heap.size := by obtain ⟨m, hm⟩ := k4; exact DataW.trod_lt m _ _ _ hm
  obtain ⟨a4, rfl, w4⟩ : ∃ a4, v4 = .pointer a4 ∧ RefIn W a4 := by
    rcases open_ptr Try.underlying27 (by rw [cells26]; omega) (hval 4 27 v4 rfl rfl) h4 with ⟨rfl, _, _⟩ | ⟨b, off, cs, y, fuel, rfl, _, _, hlen, hcell, hy⟩
    · exact ⟨none, rfl, Or.inl rfl⟩
    · rw [cells26] at hlen hcell
      obtain ⟨g, okg, rfl⟩ := eight Try.underlying26 Try.underlying21 cells21 hlen hy
      exact ⟨_, rfl, Or.inr ⟨b, off, g, rfl, okg, fun i hi => by rw [hcell i hi]; simp⟩⟩
  obtain ⟨a5, rfl, rfl, rfl, w5⟩ := open_int Try.underlying2 (hval 5 2 v5 rfl rfl) h5
  clear hA0 hval0
  refine (walk f okf a1 a2 a3 a4 a5 W w1 w2 w3 w4 w5).mono fun e W' ⟨he, bel⟩ => ?_
  subst he
  exact ⟨_, rfl, _, _, _, [], _, [], hW', trodAll_mk1 (shut_bool Try.underlying4 _), (trodAll_cons_mk (Below.trod laidOut (by kernel_rfl) (of_decide_eq_true (by kernel_rfl)) k0 bel lt0) (trodAll_cons_mk (shut_int Try.underlying21 w1) (trodAll_cons_mk (shut_int Try.underlying21 w2) (trodAll_cons_mk (shut_int Try.underlying21 w3) (trodAll_cons_mk (Below.trod laidOut (by kernel_rfl) (of_decide_eq_true (by kernel_rfl)) k4 bel lt4) (trodAll_cons_mk (shut_int Try.underlying2 w5) trodAll_mk0)))))), rfl, bel.frame _, fun h => by cases h⟩

theorem over : Rows.fnSetDateAgreesWithCalendarModelRow.holds Try.pinned (OpenSpec.ofChange Rows.fnSetDateAgreesWithCalendarModelSpec) :=
  OpenClaim.holds_of_wide 4 Try.f4 rfl rfl rfl rfl rfl rfl rfl ⟨rfl, rfl, rfl, rfl, rfl⟩ rfl rfl rfl rfl rfl (by kernel_rfl) Try.func4 (by kernel_rfl)
    (of_decide_eq_true (by kernel_rfl)) (by unfold Func.isWrapper; first | (rw [if_pos (by decide +kernel)]; kernel_rfl) | (rw [if_neg (by decide +kernel)]; exact ⟨rfl, rfl⟩))
    (fun os started H enc _ => lifted os started H enc)

/-- The statement. -/
theorem proved : Rows.FnSetDateAgreesWithCalendarModelSaid := over
#print axioms proved
end Go.Proofs.Qxb6601738a.fnSetDateAgreesWithCalendarModel
