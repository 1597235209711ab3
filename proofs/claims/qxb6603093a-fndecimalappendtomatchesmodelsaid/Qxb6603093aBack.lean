/-
  Plain: the digits of a decimal's text, read back. No Go in sight.
-/
import Derived.Test.Qxb6603093aPlace
import Derived.Test.Qxb6603093aDec
namespace Go.Proofs.Qxb6603093a.Dec
open Go.RowKit

theorem digs_add (m a b : Nat) : digs m (a + b) = digs (qt m a) b ++ digs m a := by
  induction b with
  | zero => rfl
  | succ n ih =>
    show (48 + ((qt m (a + n) % 10 : Nat) : Int)) :: digs m (a + n) = (48 + ((qt (qt m a) n % 10 : Nat) : Int)) :: digs (qt m a) n ++ digs m a
    rw [ih, qt_qt]
    rfl
theorem digs_at (m k j : Nat) (h : j < k) : (digs m k).getD j 0 = 48 + ((qt m (k - 1 - j) % 10 : Nat) : Int) := by
  induction k generalizing j with
  | zero => omega
  | succ n ih =>
    cases j with
    | zero => simp [digs]
    | succ i =>
      have := ih i (by omega)
      rw [show n + 1 - 1 - (i + 1) = n - 1 - i by omega, ← this]
      rfl
theorem digs_bd (m k j : Nat) (h : j < k) : 48 ≤ (digs m k).getD j 0 ∧ (digs m k).getD j 0 ≤ 57 := by
  rw [digs_at m k j h]
  omega

/-- The sign's length. -/
def st (neg : Bool) : Nat := if neg then 1 else 0
theorem txt_len (neg : Bool) (mag scale J : Nat) : (txt neg mag scale J).length = st neg + J + (if scale = 0 then 0 else scale + 1) := by
  unfold txt st
  cases neg <;> by_cases h : scale = 0 <;> simp [digs_length, h] <;> omega
theorem txt_drop (neg : Bool) (mag scale J i : Nat) : (txt neg mag scale J).getD (st neg + i) 0 = (digs (qt mag scale) J ++ (if scale = 0 then [] else 46 :: digs mag scale)).getD i 0 := by
  unfold txt st
  cases neg
  · simp
  · simp [Nat.add_comm 1 i]
theorem txt_whole (neg : Bool) (mag scale J i : Nat) (h : i < J) : (txt neg mag scale J).getD (st neg + i) 0 = (digs mag (scale + J)).getD i 0 := by
  rw [txt_drop, digs_add]
  simp only [List.getD_eq_getElem?_getD]
  rw [List.getElem?_append_left (by rw [digs_length]; exact h), List.getElem?_append_left (by rw [digs_length]; exact h)]
theorem txt_point (neg : Bool) (mag scale J : Nat) (h : 0 < scale) : (txt neg mag scale J).getD (st neg + J) 0 = 46 := by
  rw [txt_drop, if_neg (by omega)]
  simp only [List.getD_eq_getElem?_getD]
  rw [List.getElem?_append_right (by rw [digs_length]; omega), digs_length]
  simp
theorem txt_frac (neg : Bool) (mag scale J i : Nat) (h : 0 < scale) (hi : J ≤ i) : (txt neg mag scale J).getD (st neg + (i + 1)) 0 = (digs mag (scale + J)).getD i 0 := by
  rw [txt_drop, if_neg (by omega), digs_add]
  simp only [List.getD_eq_getElem?_getD]
  rw [List.getElem?_append_right (by rw [digs_length]; omega), List.getElem?_append_right (by rw [digs_length]; omega), digs_length]
  rw [show i + 1 - J = (i - J) + 1 by omega, List.getElem?_cons_succ]
theorem txt_neg (mag scale J : Nat) : (txt true mag scale J).getD 0 0 = 45 := rfl

/-- Horner's value of all digits is the number. -/
theorem hv_digs (m L : Nat) (h : qt m L = 0) (b : Nat → Int) (hb : ∀ j, j < L → b j = (digs m L).getD j 0) (k : Nat) (hk : k ≤ L) : Dig.hv b k = (qt m (L - k) : Nat) := by
  induction k with
  | zero => show (0 : Int) = _; rw [Nat.sub_zero, h]; rfl
  | succ n ih =>
    show 10 * Dig.hv b n + (b n - 48) = _
    rw [ih (by omega), hb n (by omega), digs_at m L n (by omega)]
    obtain ⟨r, hr⟩ : ∃ r, L - n = r + 1 := ⟨L - n - 1, by omega⟩
    rw [hr, qt_succ, show L - 1 - n = r by omega, show L - (n + 1) = r by omega]
    omega
theorem ok_digs (m L : Nat) (b : Nat → Int) (hb : ∀ j, j < L → b j = (digs m L).getD j 0) (k : Nat) (hk : k ≤ L) : Dig.okTo b k = true := by
  induction k with
  | zero => rfl
  | succ n ih =>
    have := digs_bd m L n (by omega)
    unfold Dig.okTo
    rw [ih (by omega), hb n (by omega), decide_eq_true this]
    rfl
/-- The leading digit of a whole part of more than one digit is not 0. -/
theorem lead (m scale J : Nat) (h : Len (qt m scale) J) (hJ : 1 < J) : 48 < (digs m (scale + J)).getD 0 0 := by
  rw [digs_at m _ 0 (by omega)]
  have h1 := h.2.1
  have h2 := h.2.2 (J - 1) (by omega) (by omega)
  rw [qt_qt] at h1 h2
  rw [show scale + J = scale + J - 1 - 0 + 1 by omega, qt_succ] at h1
  rw [show scale + (J - 1) = scale + J - 1 - 0 by omega] at h2
  omega
end Go.Proofs.Qxb6603093a.Dec
