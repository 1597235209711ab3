/-
  An array of five one-cell elements (floats; integers) as the reader reads it: taken apart, and put together.
-/
import Derived.Test.Qxb6600810aRows
import Derived.WalkKit
import Derived.ProofKit
import Derived.OpenShut
import Derived.Laws.FloatArith
namespace Go.Proofs.Qxb6600810a.Five
open Go.ChangeShapes Go.WideShapes Go.ChangeAt Go.RowKit
variable {H : Type} {enc : TypeId × Value → H} {P : Program} {w : World} {base : Nat} {spare : Nat → Bool} {held : Bool}

theorem list5 {α : Type} (l : List α) (h : (⟨l⟩ : Array α).size = 5) : ∃ a b c d e, l = [a, b, c, d, e] := by
  match l, h with
  | [a, b, c, d, e], _ => exact ⟨a, b, c, d, e, rfl⟩
theorem trod_float {k : FloatKind} {t : TypeId} {fuel : Nat} {cs : List Value} {x : DataW H × List MemPlace} (ht : P.underlying t = some (.float k)) (h : DataW.trod enc P w base spare held fuel t cs = some x) :
    ∃ n, cs = [.float k n] ∧ x = (.lit (.float k n), []) ∧ (Lit.float k n).wf = true := by
  cases fuel with
  | zero => simp [DataW.trod] at h
  | succ n =>
    unfold DataW.trod at h
    rw [ht] at h
    split at h <;> simp_all
/-- Each element by its own reading. -/
theorem five {t e : TypeId} {fuel : Nat} {c0 c1 c2 c3 c4 : Value} {x : DataW H × List MemPlace} (ht : P.underlying t = some (.array 5 e)) (hce : P.cellsOf e = 1)
    (h : DataW.trod enc P w base spare held fuel t [c0, c1, c2, c3, c4] = some x) :
    ∃ y0 y1 y2 y3 y4 m, x = (.agg [y0.1, y1.1, y2.1, y3.1, y4.1], [y0, y1, y2, y3, y4].flatMap (·.2)) ∧ DataW.trod enc P w base spare held m e [c0] = some y0 ∧ DataW.trod enc P w base spare held m e [c1] = some y1 ∧ DataW.trod enc P w base spare held m e [c2] = some y2 ∧ DataW.trod enc P w base spare held m e [c3] = some y3 ∧ DataW.trod enc P w base spare held m e [c4] = some y4 := by
  obtain ⟨xs, m, _, hx, _, hlen, hget⟩ := DataW.trod_array ht h
  rw [hce] at hget
  obtain ⟨y0, y1, y2, y3, y4, rfl⟩ := list5 xs (by simpa using hlen)
  exact ⟨y0, y1, y2, y3, y4, m, hx, by simpa using hget 0 (by omega), by simpa using hget 1 (by omega), by simpa using hget 2 (by omega), by simpa using hget 3 (by omega), by simpa using hget 4 (by omega)⟩
/-- An array of five floats, shut. -/
theorem shut_floats {t e : TypeId} {s0 s1 s2 s3 s4 : Nat} (ht : P.underlying t = some (.array 5 e)) (he : P.underlying e = some (.float .f64)) (hce : P.cellsOf e = 1) (hct : P.cellsOf t = 5)
    (w0 : (Lit.float .f64 s0).wf = true) (w1 : (Lit.float .f64 s1).wf = true) (w2 : (Lit.float .f64 s2).wf = true) (w3 : (Lit.float .f64 s3).wf = true) (w4 : (Lit.float .f64 s4).wf = true) :
    DataW.Trod enc P w base spare held t (.agg #[.float .f64 s0, .float .f64 s1, .float .f64 s2, .float .f64 s3, .float .f64 s4]) (.agg [.lit (.float .f64 s0), .lit (.float .f64 s1), .lit (.float .f64 s2), .lit (.float .f64 s3), .lit (.float .f64 s4)]) [] :=
  ⟨2, by simp [DataW.trod, Value.cells, ht, he, hct, hce, w0, w1, w2, w3, w4, show List.range 5 = [0, 1, 2, 3, 4] from rfl]⟩
/-- An array of five integers, shut. -/
theorem shut_ints5 {t e : TypeId} {k : IntKind} {s0 s1 s2 s3 s4 : Int} (ht : P.underlying t = some (.array 5 e)) (he : P.underlying e = some (.int k)) (hce : P.cellsOf e = 1) (hct : P.cellsOf t = 5)
    (w0 : (Lit.int k s0).wf = true) (w1 : (Lit.int k s1).wf = true) (w2 : (Lit.int k s2).wf = true) (w3 : (Lit.int k s3).wf = true) (w4 : (Lit.int k s4).wf = true) :
    DataW.Trod enc P w base spare held t (.agg #[.int k s0, .int k s1, .int k s2, .int k s3, .int k s4]) (.agg [.lit (.int k s0), .lit (.int k s1), .lit (.int k s2), .lit (.int k s3), .lit (.int k s4)]) [] :=
  ⟨2, by simp [DataW.trod, Value.cells, ht, he, hct, hce, w0, w1, w2, w3, w4, show List.range 5 = [0, 1, 2, 3, 4] from rfl]⟩
end Go.Proofs.Qxb6600810a.Five
