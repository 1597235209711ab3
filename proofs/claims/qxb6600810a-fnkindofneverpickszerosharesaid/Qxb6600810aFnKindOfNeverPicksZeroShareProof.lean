/-
  'Rows.FnKindOfNeverPicksZeroShareSaid', proved: the walk, and the row's step (after the guide's template, at an array of five floats and a float).
-/
import Derived.Test.Qxb6600810aRows
import Derived.WalkKit
import Derived.ProofKit
import Derived.OpenShut
import Derived.ChangeOld
import Derived.Below
import Derived.Test.Qxb6600810aFive
import Derived.Test.Qxb6600810aZero
namespace Go.Proofs.Qxb6600810a.fnKindOfNeverPicksZeroShare
open Go.ChangeShapes Go.WideShapes Go.ChangeAt Go.RowKit Five
set_option linter.unusedVariables false

theorem own : ownKnob Try.prog.godebug = none := by kernel_rfl
theorem cells24 : Try.prog.cellsOf 24 = 1 := by kernel_rfl
theorem cells25 : Try.prog.cellsOf 25 = 5 := by kernel_rfl

/-- Five numbers as a function of their place. -/
def pick (s0 s1 s2 s3 s4 : Nat) : Nat → Nat
  | 0 => s0
  | 1 => s1
  | 2 => s2
  | 3 => s3
  | _ => s4
theorem walk (s0 s1 s2 s3 s4 u : Nat) (w : World) :
    Calls Try.prog 4 #[.agg #[.float .f64 s0, .float .f64 s1, .float .f64 s2, .float .f64 s3, .float .f64 s4], .float .f64 u] w fun e w' => e = .returned (.bool true) ∧ Below w.heap.size w w' :=
  main_walk (pick s0 s1 s2 s3 s4) u w

set_option maxHeartbeats 400000 in
set_option maxRecDepth 100000 in
theorem lifted (os : Os) (started : os.Started) (H : Type) (enc : TypeId × Value → H) :
    ReturnsInHanded {} Try.checked os 4 .any (Rows.fnKindOfNeverPicksZeroShareSpec.pre6 enc Try.prog Try.f4 Rows.fnKindOfNeverPicksZeroShareRow.domain false) (Rows.fnKindOfNeverPicksZeroShareSpec.post enc Try.prog Try.f4 false true false false) := by
  refine returnsInHanded_of_change (C := Try.checked) own started (by kernel_rfl) Try.func4
    (ChangeSpec.witness6 (enc := enc) (C := Try.checked) false ⟨#[], #[.agg #[.float .f64 0, .float .f64 0, .float .f64 0, .float .f64 0, .float .f64 0], .float .f64 0], []⟩ 8 (by kernel_rfl) (by kernel_rfl) (by kernel_rfl) (by kernel_rfl)) ?_
  intro W base args ds gs before hval0 hW hcnd _
  have hval : ∀ (j : Nat) t v, Try.f4.params[j]? = some t → args[j]? = some v → Value.okWide Try.prog W .any base t v := hval0
  have hW' := hW
  obtain ⟨p, q, hA0, hV, rfl, hfz, hnd⟩ := hW
  have hA : DataW.TrodAll enc Try.prog W 0 (fun _ => true) true Try.f4.params.toList args.toList ds p := hA0
  rw [Try.params4] at hA hval
  obtain ⟨v0, vs0, d0, ds0, p0, q0, hargs, rfl, rfl, h0, r0⟩ := trodAll_cons hA
  obtain ⟨v1, vs1, d1, ds1, p1, q1, rfl, rfl, rfl, h1, r1⟩ := trodAll_cons r0
  obtain ⟨rfl, rfl, rfl⟩ := trodAll_nil r1
  obtain rfl : args = #[v0, v1] := by cases args; simp_all
  obtain ⟨rfl, rfl⟩ := trodVars_none hV
  obtain ⟨u, rfl, rfl, rfl, wu⟩ := open_float Try.underlying24 (hval 1 24 v1 rfl rfl) h1
  obtain ⟨cs, rfl, hsz, _⟩ : ∃ cs, v0 = .agg cs ∧ cs.size = Try.prog.cellsOf 25 ∧ Row.okWide Try.prog W .any base 25 cs := by
    have := hval 0 25 v0 rfl rfl
    simpa [Value.okWide, Try.underlying25] using this
  rw [cells25] at hsz
  obtain ⟨l⟩ := cs
  obtain ⟨c0, c1, c2, c3, c4, rfl⟩ := list5 l hsz
  obtain ⟨fuel, hf⟩ := h0
  obtain ⟨y0, y1, y2, y3, y4, m, hx, hy0, hy1, hy2, hy3, hy4⟩ := five Try.underlying25 cells24 hf
  obtain ⟨s0, e0, rfl, w0⟩ := trod_float Try.underlying24 hy0
  obtain ⟨s1, e1, rfl, w1⟩ := trod_float Try.underlying24 hy1
  obtain ⟨s2, e2, rfl, w2⟩ := trod_float Try.underlying24 hy2
  obtain ⟨s3, e3, rfl, w3⟩ := trod_float Try.underlying24 hy3
  obtain ⟨s4, e4, rfl, w4⟩ := trod_float Try.underlying24 hy4
  simp at e0 e1 e2 e3 e4
  subst e0 e1 e2 e3 e4
  simp only [Prod.mk.injEq] at hx
  obtain ⟨rfl, rfl⟩ := hx
  clear hA0 hval0 hA hval hf hy0 hy1 hy2 hy3 hy4
  refine (walk s0 s1 s2 s3 s4 u W).mono fun e W' ⟨he, bel⟩ => ?_
  subst he
  exact ⟨_, rfl, _, _, _, [], _, [], hW', trodAll_mk1 (shut_bool Try.underlying4 _), (trodAll_cons_mk (shut_floats Try.underlying25 Try.underlying24 cells24 cells25 w0 w1 w2 w3 w4) (trodAll_cons_mk (shut_float Try.underlying24 wu) trodAll_mk0)), rfl, bel.frame _, fun h => by cases h⟩

theorem over : Rows.fnKindOfNeverPicksZeroShareRow.holds Try.pinned (OpenSpec.ofChange Rows.fnKindOfNeverPicksZeroShareSpec) :=
  OpenClaim.holds_of_wide 4 Try.f4 rfl rfl rfl rfl rfl rfl rfl ⟨rfl, rfl, rfl, rfl, rfl⟩ rfl rfl rfl rfl rfl (by kernel_rfl) Try.func4 (by kernel_rfl)
    (of_decide_eq_true (by kernel_rfl)) (by unfold Func.isWrapper; first | (rw [if_pos (by decide +kernel)]; kernel_rfl) | (rw [if_neg (by decide +kernel)]; exact ⟨rfl, rfl⟩))
    (fun os started H enc _ => lifted os started H enc)

/-- ████ THE STATEMENT ████ -/
theorem proved : Rows.FnKindOfNeverPicksZeroShareSaid := over
#print axioms proved
end Go.Proofs.Qxb6600810a.fnKindOfNeverPicksZeroShare
