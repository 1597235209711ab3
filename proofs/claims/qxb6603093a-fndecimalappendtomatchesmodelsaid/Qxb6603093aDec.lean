/-
  Plain: the digits of a number, and the text of a decimal. No Go in sight.
-/
import Derived.WalkKit
namespace Go.Proofs.Qxb6603093a.Dec

/-- m without its last k digits. -/
def qt (m k : Nat) : Nat := m / 10 ^ k
theorem qt_zero (m : Nat) : qt m 0 = m := by unfold qt; simp
theorem qt_succ (m k : Nat) : qt m (k + 1) = qt m k / 10 := by unfold qt; rw [Nat.pow_succ, Nat.div_div_eq_div_mul]
theorem qt_le (m k : Nat) : qt m k ≤ m := Nat.div_le_self _ _
theorem qt_qt (m a b : Nat) : qt (qt m a) b = qt m (a + b) := by unfold qt; rw [Nat.div_div_eq_div_mul, Nat.pow_add]

/-- The last k digits of m as bytes, the leading one first. -/
def digs (m : Nat) : Nat → List Int
  | 0 => []
  | k + 1 => (48 + ((qt m k % 10 : Nat) : Int)) :: digs m k
theorem digs_length (m k : Nat) : (digs m k).length = k := by
  induction k with
  | zero => rfl
  | succ n ih => simp [digs, ih]

/-- m has J digits (0 has one). -/
def Len (m J : Nat) : Prop := 1 ≤ J ∧ qt m J = 0 ∧ ∀ j, 1 ≤ j → j < J → qt m j ≠ 0
theorem len_ex (m B : Nat) (hB : 1 ≤ B) (h : qt m B = 0) : ∃ J, Len m J ∧ J ≤ B := by
  induction B with
  | zero => omega
  | succ n ih =>
    by_cases h1 : 1 ≤ n ∧ qt m n = 0
    · obtain ⟨J, hJ, hle⟩ := ih h1.1 h1.2
      exact ⟨J, hJ, by omega⟩
    · by_cases h2 : n = 0
      · subst h2
        exact ⟨1, ⟨by omega, h, fun j a b => by omega⟩, by omega⟩
      · refine ⟨n + 1, ⟨by omega, h, fun j a b e => ?_⟩, by omega⟩
        have hn : qt m n ≠ 0 := fun e => h1 ⟨by omega, e⟩
        apply hn
        obtain ⟨d, rfl⟩ : ∃ d, n = j + d := ⟨n - j, by omega⟩
        rw [← qt_qt, e]
        unfold qt
        simp

/-- The text of a decimal: its sign, its whole part of J digits, and 'scale' digits behind a point where scale is not 0. -/
def txt (neg : Bool) (mag scale J : Nat) : List Int :=
  (if neg then [45] else []) ++ (digs (qt mag scale) J ++ (if scale = 0 then [] else 46 :: digs mag scale))

/-- A store into the cell ahead of what stands in the text so far. -/
theorem drop_set {α : Type} (A : Array α) (i : Nat) (v : α) (l : List α) (hi : i < A.size) (h : A.toList.drop (i + 1) = l) : (A.setIfInBounds i v).toList.drop i = v :: l := by
  rw [Array.toList_setIfInBounds, List.drop_eq_getElem_cons (by simpa using hi), List.getElem_set_self, List.drop_set_of_lt (by omega), h]
end Go.Proofs.Qxb6603093a.Dec
