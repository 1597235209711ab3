/-
  'Rows.FnDigitsAtMatchesPlaceValuesSaid', proved: the walks joined, and the row's step after the seat's shell (by 'Below' in the place of 'Grown': '[]byte(s)' lays a block with a mark).
-/
import Derived.Test.Qxb6603093aRows
import Derived.WalkKit
import Derived.ProofKit
import Derived.OpenShut
import Derived.ShutString
import Derived.ChangeOld
import Derived.Below
import Derived.Test.Qxb6603093aPlaceWalks
namespace Go.Proofs.Qxb6603093a.fnDigitsAtMatchesPlaceValues
open Go.ChangeShapes Go.WideShapes Go.ChangeAt Go.RowKit
open Go.ChangeMaps (open_string shut_string)
open Go.PlainAid Dig
set_option linter.unusedVariables false

theorem own : ownKnob Try.prog.godebug = none := by kernel_rfl

theorem walk (a0 : ByteArray) (a1 : Int) (a2 : Int) (w0 : a0.size ≤ maxLen) (w1 : (Lit.int .i64 a1).wf = true) (w2 : (Lit.int .i64 a2).wf = true) (w : World) :
    Calls Try.prog 3 #[.string a0, .int .i64 a1, .int .i64 a2] w fun e w' => e = .returned (.bool true) ∧ Below w.heap.size w w' := by
  obtain ⟨l1, u1⟩ : -9223372036854775808 ≤ a1 ∧ a1 ≤ 9223372036854775807 := bounds_i64 w1
  obtain ⟨l2, u2⟩ : -9223372036854775808 ≤ a2 ∧ a2 ≤ 9223372036854775807 := bounds_i64 w2
  have hs' := w0
  unfold maxLen at hs'
  by_cases hb : (a0.size : Int) ≤ 1048576
  · by_cases hi : 0 ≤ a1
    · by_cases hn : 0 ≤ a2
      · by_cases hin : a1 + a2 ≤ 9223372036854775807
        · by_cases hlt : (a0.size : Int) < a1 + a2
          · exact short_walk a0 a1 a2 w0 hb hi hn hin hlt w
          · obtain ⟨i, rfl⟩ := Int.eq_ofNat_of_zero_le hi
            obtain ⟨n, rfl⟩ := Int.eq_ofNat_of_zero_le hn
            cases hok : okTo (bs a0 i) n
            · exact no_walk a0 i n w0 hb (by omega) hok w
            · exact ok_walk a0 i n w0 hb (by omega) hok w
        · have hd : decide ((a0.size : Int) ≤ 1048576) = true := by simpa using hb
          go_enter Try.func3, Try.ntmps3
          go_wp2_with (go_at_call 10; refine (bytes_any _ _ _ w0 _).mono ?_; rintro e w' ⟨rfl, rfl⟩; rw [hd])
          go_ret
          exact ⟨rfl, Below.refl _ _⟩
      · have hd : decide ((a0.size : Int) ≤ 1048576) = true := by simpa using hb
        go_enter Try.func3, Try.ntmps3
        go_wp2_with (go_at_call 10; refine (bytes_any _ _ _ w0 _).mono ?_; rintro e w' ⟨rfl, rfl⟩; rw [hd])
        go_ret
        exact ⟨rfl, Below.refl _ _⟩
    · have hd : decide ((a0.size : Int) ≤ 1048576) = true := by simpa using hb
      go_enter Try.func3, Try.ntmps3
      go_wp2_with (go_at_call 10; refine (bytes_any _ _ _ w0 _).mono ?_; rintro e w' ⟨rfl, rfl⟩; rw [hd])
      go_ret
      exact ⟨rfl, Below.refl _ _⟩
  · have hd : decide ((a0.size : Int) ≤ 1048576) = false := by simpa using hb
    go_enter Try.func3, Try.ntmps3
    go_wp2_with (go_at_call 10; refine (bytes_any _ _ _ w0 _).mono ?_; rintro e w' ⟨rfl, rfl⟩; rw [hd])
    go_ret
    exact ⟨rfl, Below.refl _ _⟩

/-! ### THE ROW's STEP: WRITTEN OUT: LEAVE IT -/
set_option maxRecDepth 100000 in
theorem lifted (os : Os) (started : os.Started) (H : Type) (enc : TypeId × Value → H) :
    ReturnsInHanded {} Try.checked os 3 .any (Rows.fnDigitsAtMatchesPlaceValuesSpec.pre6 enc Try.prog Try.f3 Rows.fnDigitsAtMatchesPlaceValuesRow.domain false) (Rows.fnDigitsAtMatchesPlaceValuesSpec.post enc Try.prog Try.f3 false true false false) := by
  refine returnsInHanded_of_change (C := Try.checked) own started (by kernel_rfl) Try.func3
    (ChangeSpec.witness6 (enc := enc) (C := Try.checked) false ⟨#[], #[.string ByteArray.empty, .int .i64 0, .int .i64 0], []⟩ 8 (by kernel_rfl) (by kernel_rfl) (by kernel_rfl) (by kernel_rfl)) ?_
  intro W base args ds gs before hval0 hW hcnd _
  have hval : ∀ (j : Nat) t v, Try.f3.params[j]? = some t → args[j]? = some v → Value.okWide Try.prog W .any base t v := hval0
  have hW' := hW
  obtain ⟨p, q, hA0, hV, rfl, hfz, hnd⟩ := hW
  have hA : DataW.TrodAll enc Try.prog W 0 (fun _ => true) true Try.f3.params.toList args.toList ds p := hA0
  rw [Try.params3] at hA hval
  obtain ⟨v0, vs0, d0, ds0, p0, q0, hargs, rfl, rfl, h0, r0⟩ := trodAll_cons hA
  obtain ⟨v1, vs1, d1, ds1, p1, q1, rfl, rfl, rfl, h1, r1⟩ := trodAll_cons r0
  obtain ⟨v2, vs2, d2, ds2, p2, q2, rfl, rfl, rfl, h2, r2⟩ := trodAll_cons r1
  obtain ⟨rfl, rfl, rfl⟩ := trodAll_nil r2
  obtain rfl : args = #[v0, v1, v2] := by cases args; simp_all
  obtain ⟨rfl, rfl⟩ := trodVars_none hV
  obtain ⟨a0, rfl, rfl, rfl, w0⟩ := open_string Try.underlying9 (hval 0 9 v0 rfl rfl) h0
  obtain ⟨a1, rfl, rfl, rfl, w1⟩ := open_int Try.underlying3 (hval 1 3 v1 rfl rfl) h1
  obtain ⟨a2, rfl, rfl, rfl, w2⟩ := open_int Try.underlying3 (hval 2 3 v2 rfl rfl) h2
  clear hA0 hval0
  simp only [List.append_nil] at hW'
  refine (walk a0 a1 a2 w0 w1 w2 W).mono fun e W' ⟨he, bel⟩ => ?_
  subst he
  exact ⟨_, rfl, _, _, _, [], _, [], hW', trodAll_mk1 (shut_bool Try.underlying4 _), (trodAll_cons_mk (shut_string Try.underlying9 w0) (trodAll_cons_mk (shut_int Try.underlying3 w1) (trodAll_cons_mk (shut_int Try.underlying3 w2) trodAll_mk0))), rfl, bel.frame _, fun h => by cases h⟩

theorem over : Rows.fnDigitsAtMatchesPlaceValuesRow.holds Try.pinned (OpenSpec.ofChange Rows.fnDigitsAtMatchesPlaceValuesSpec) :=
  OpenClaim.holds_of_wide 3 Try.f3 rfl rfl rfl rfl rfl rfl rfl ⟨rfl, rfl, rfl, rfl, rfl⟩ rfl rfl rfl rfl rfl (by kernel_rfl) Try.func3 (by kernel_rfl)
    (of_decide_eq_true (by kernel_rfl)) (by unfold Func.isWrapper; first | (rw [if_pos (by decide +kernel)]; kernel_rfl) | (rw [if_neg (by decide +kernel)]; exact ⟨rfl, rfl⟩))
    (fun os started H enc _ => lifted os started H enc)

/-- ████ THE STATEMENT ████ -/
theorem proved : Rows.FnDigitsAtMatchesPlaceValuesSaid :=
  over
#print axioms proved
end Go.Proofs.Qxb6603093a.fnDigitsAtMatchesPlaceValues
