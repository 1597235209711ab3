/-
  'Rows.FnKindOfExactOnDyadicSharesSaid', proved: the walk, and the row's step (after the guide's template, at an array of five uint32s and a uint32).
-/
import Derived.Test.Qxb6600810aRows
import Derived.WalkKit
import Derived.ProofKit
import Derived.OpenShut
import Derived.ChangeOld
import Derived.Below
import Derived.Test.Qxb6600810aFive
import Derived.Test.Qxb6600810aExactWalk
namespace Go.Proofs.Qxb6600810a.fnKindOfExactOnDyadicShares
open Go.ChangeShapes Go.WideShapes Go.ChangeAt Go.RowKit Five
set_option linter.unusedVariables false

theorem own : ownKnob Try.prog.godebug = none := by kernel_rfl
theorem cells22 : Try.prog.cellsOf 22 = 1 := by kernel_rfl
theorem cells23 : Try.prog.cellsOf 23 = 5 := by kernel_rfl

/-- Five numbers as a function of their place. -/
def pick (s0 s1 s2 s3 s4 : Int) : Nat → Nat
  | 0 => s0.toNat
  | 1 => s1.toNat
  | 2 => s2.toNat
  | 3 => s3.toNat
  | _ => s4.toNat
theorem pick_lt {s0 s1 s2 s3 s4 : Int} (w0 : (Lit.int .u32 s0).wf = true) (w1 : (Lit.int .u32 s1).wf = true) (w2 : (Lit.int .u32 s2).wf = true) (w3 : (Lit.int .u32 s3).wf = true) (w4 : (Lit.int .u32 s4).wf = true) : ∀ i, pick s0 s1 s2 s3 s4 i < 2 ^ 32 := by
  have b0 := bounds_u32 w0
  have b1 := bounds_u32 w1
  have b2 := bounds_u32 w2
  have b3 := bounds_u32 w3
  have b4 := bounds_u32 w4
  intro i
  match i with
  | 0 => show s0.toNat < _; omega
  | 1 => show s1.toNat < _; omega
  | 2 => show s2.toNat < _; omega
  | 3 => show s3.toNat < _; omega
  | _ + 4 => show s4.toNat < _; omega
theorem walk (s0 s1 s2 s3 s4 u : Int) (w0 : (Lit.int .u32 s0).wf = true) (w1 : (Lit.int .u32 s1).wf = true) (w2 : (Lit.int .u32 s2).wf = true) (w3 : (Lit.int .u32 s3).wf = true) (w4 : (Lit.int .u32 s4).wf = true) (wu : (Lit.int .u32 u).wf = true) (w : World) :
    Calls Try.prog 3 #[.agg #[.int .u32 s0, .int .u32 s1, .int .u32 s2, .int .u32 s3, .int .u32 s4], .int .u32 u] w fun e w' => e = .returned (.bool true) ∧ Below w.heap.size w w' := by
  have b0 := bounds_u32 w0
  have b1 := bounds_u32 w1
  have b2 := bounds_u32 w2
  have b3 := bounds_u32 w3
  have b4 := bounds_u32 w4
  have b5 := bounds_u32 wu
  have h := main_walk (pick s0 s1 s2 s3 s4) u.toNat (pick_lt w0 w1 w2 w3 w4) (by omega) w
  rw [show ((pick s0 s1 s2 s3 s4 0 : Nat) : Int) = s0 from Int.toNat_of_nonneg b0.1, show ((pick s0 s1 s2 s3 s4 1 : Nat) : Int) = s1 from Int.toNat_of_nonneg b1.1, show ((pick s0 s1 s2 s3 s4 2 : Nat) : Int) = s2 from Int.toNat_of_nonneg b2.1, show ((pick s0 s1 s2 s3 s4 3 : Nat) : Int) = s3 from Int.toNat_of_nonneg b3.1, show ((pick s0 s1 s2 s3 s4 4 : Nat) : Int) = s4 from Int.toNat_of_nonneg b4.1, Int.toNat_of_nonneg b5.1] at h
  exact h

set_option maxHeartbeats 400000 in
set_option maxRecDepth 100000 in
theorem lifted (os : Os) (started : os.Started) (H : Type) (enc : TypeId × Value → H) :
    ReturnsInHanded {} Try.checked os 3 .any (Rows.fnKindOfExactOnDyadicSharesSpec.pre6 enc Try.prog Try.f3 Rows.fnKindOfExactOnDyadicSharesRow.domain false) (Rows.fnKindOfExactOnDyadicSharesSpec.post enc Try.prog Try.f3 false true false false) := by
  refine returnsInHanded_of_change (C := Try.checked) own started (by kernel_rfl) Try.func3
    (ChangeSpec.witness6 (enc := enc) (C := Try.checked) false ⟨#[], #[.agg #[.int .u32 0, .int .u32 0, .int .u32 0, .int .u32 0, .int .u32 0], .int .u32 0], []⟩ 8 (by kernel_rfl) (by kernel_rfl) (by kernel_rfl) (by kernel_rfl)) ?_
  intro W base args ds gs before hval0 hW hcnd _
  have hval : ∀ (j : Nat) t v, Try.f3.params[j]? = some t → args[j]? = some v → Value.okWide Try.prog W .any base t v := hval0
  have hW' := hW
  obtain ⟨p, q, hA0, hV, rfl, hfz, hnd⟩ := hW
  have hA : DataW.TrodAll enc Try.prog W 0 (fun _ => true) true Try.f3.params.toList args.toList ds p := hA0
  rw [Try.params3] at hA hval
  obtain ⟨v0, vs0, d0, ds0, p0, q0, hargs, rfl, rfl, h0, r0⟩ := trodAll_cons hA
  obtain ⟨v1, vs1, d1, ds1, p1, q1, rfl, rfl, rfl, h1, r1⟩ := trodAll_cons r0
  obtain ⟨rfl, rfl, rfl⟩ := trodAll_nil r1
  obtain rfl : args = #[v0, v1] := by cases args; simp_all
  obtain ⟨rfl, rfl⟩ := trodVars_none hV
  obtain ⟨u, rfl, rfl, rfl, wu⟩ := open_int Try.underlying22 (hval 1 22 v1 rfl rfl) h1
  obtain ⟨cs, rfl, hsz, _⟩ : ∃ cs, v0 = .agg cs ∧ cs.size = Try.prog.cellsOf 23 ∧ Row.okWide Try.prog W .any base 23 cs := by
    have := hval 0 23 v0 rfl rfl
    simpa [Value.okWide, Try.underlying23] using this
  rw [cells23] at hsz
  obtain ⟨l⟩ := cs
  obtain ⟨c0, c1, c2, c3, c4, rfl⟩ := list5 l hsz
  obtain ⟨fuel, hf⟩ := h0
  obtain ⟨y0, y1, y2, y3, y4, m, hx, hy0, hy1, hy2, hy3, hy4⟩ := five Try.underlying23 cells22 hf
  obtain ⟨s0, e0, rfl, w0⟩ := DataW.trod_int Try.underlying22 hy0
  obtain ⟨s1, e1, rfl, w1⟩ := DataW.trod_int Try.underlying22 hy1
  obtain ⟨s2, e2, rfl, w2⟩ := DataW.trod_int Try.underlying22 hy2
  obtain ⟨s3, e3, rfl, w3⟩ := DataW.trod_int Try.underlying22 hy3
  obtain ⟨s4, e4, rfl, w4⟩ := DataW.trod_int Try.underlying22 hy4
  simp at e0 e1 e2 e3 e4
  subst e0 e1 e2 e3 e4
  simp only [Prod.mk.injEq] at hx
  obtain ⟨rfl, rfl⟩ := hx
  clear hA0 hval0 hA hval hf hy0 hy1 hy2 hy3 hy4
  refine (walk s0 s1 s2 s3 s4 u w0 w1 w2 w3 w4 wu W).mono fun e W' ⟨he, bel⟩ => ?_
  subst he
  exact ⟨_, rfl, _, _, _, [], _, [], hW', trodAll_mk1 (shut_bool Try.underlying4 _), (trodAll_cons_mk (shut_ints5 Try.underlying23 Try.underlying22 cells22 cells23 w0 w1 w2 w3 w4) (trodAll_cons_mk (shut_int Try.underlying22 wu) trodAll_mk0)), rfl, bel.frame _, fun h => by cases h⟩

theorem over : Rows.fnKindOfExactOnDyadicSharesRow.holds Try.pinned (OpenSpec.ofChange Rows.fnKindOfExactOnDyadicSharesSpec) :=
  OpenClaim.holds_of_wide 3 Try.f3 rfl rfl rfl rfl rfl rfl rfl ⟨rfl, rfl, rfl, rfl, rfl⟩ rfl rfl rfl rfl rfl (by kernel_rfl) Try.func3 (by kernel_rfl)
    (of_decide_eq_true (by kernel_rfl)) (by unfold Func.isWrapper; first | (rw [if_pos (by decide +kernel)]; kernel_rfl) | (rw [if_neg (by decide +kernel)]; exact ⟨rfl, rfl⟩))
    (fun os started H enc _ => lifted os started H enc)

/-- ████ THE STATEMENT ████ -/
theorem proved : Rows.FnKindOfExactOnDyadicSharesSaid := over
#print axioms proved
end Go.Proofs.Qxb6600810a.fnKindOfExactOnDyadicShares
