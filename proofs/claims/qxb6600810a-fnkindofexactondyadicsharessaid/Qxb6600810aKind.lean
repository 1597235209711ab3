/-
  The walk of '(*Workload).kindOf' (function 8), whatever the bits of the shares and of u.
-/
import Derived.Test.Qxb6600810aRows
import Derived.WalkKit
import Derived.ProofKit
import Derived.PlainAid
import Derived.Handy
import Derived.WalkLawsBesides
import Derived.Laws.FloatArith
namespace Go.Proofs.Qxb6600810a.Kind
open Go.RowKit Go.PlainAid

theorem hide {p : Prop} (h : p) : Hid p := h
theorem unhide {p : Prop} (h : Hid p) : p := h

/-- Is it a zero (of either sign)? -/
def z (s : Nat) : Bool := FloatKind.f64.format.order s 0 == some .eq
/-- The last of the first j kinds whose share is not zero; 0 if there is none. -/
def lastOf (S : Nat → Nat) : Nat → Nat
  | 0 => 0
  | j + 1 => if z (S j) then lastOf S j else j

/-- 'u - share', whatever the bits: some float; a draw where the language leaves it open. -/
theorem sub_any (x y : Nat) (w : World) : ∃ r q, (binOp .sub 24 (.float .f64 x) (.float .f64 y)).run Try.prog w = .ok (.float .f64 r) (w.drewN q) := by
  cases h : FloatKind.f64.format.sub x y with
  | some r => exact ⟨r, 0, by simp [binOp, Op.floatArith, h]; rfl⟩
  | none => exact ⟨(Question.nanBits .f64 x y).cut (w.tape w.drawn (.nanBits .f64 x y)), 1, by simp [binOp, Op.floatArith, h]; rfl⟩

theorem idx (S : Nat → Nat) (w : World) :
    (Instr.index 25 (.agg #[.float .f64 (S 0), .float .f64 (S 1), .float .f64 (S 2), .float .f64 (S 3), .float .f64 (S 4)]) (.int .i64 0)).run Try.prog w = .ok (.float .f64 (S 0)) w ∧
    (Instr.index 25 (.agg #[.float .f64 (S 0), .float .f64 (S 1), .float .f64 (S 2), .float .f64 (S 3), .float .f64 (S 4)]) (.int .i64 1)).run Try.prog w = .ok (.float .f64 (S 1)) w ∧
    (Instr.index 25 (.agg #[.float .f64 (S 0), .float .f64 (S 1), .float .f64 (S 2), .float .f64 (S 3), .float .f64 (S 4)]) (.int .i64 2)).run Try.prog w = .ok (.float .f64 (S 2)) w ∧
    (Instr.index 25 (.agg #[.float .f64 (S 0), .float .f64 (S 1), .float .f64 (S 2), .float .f64 (S 3), .float .f64 (S 4)]) (.int .i64 3)).run Try.prog w = .ok (.float .f64 (S 3)) w ∧
    (Instr.index 25 (.agg #[.float .f64 (S 0), .float .f64 (S 1), .float .f64 (S 2), .float .f64 (S 3), .float .f64 (S 4)]) (.int .i64 4)).run Try.prog w = .ok (.float .f64 (S 4)) w :=
  ⟨by kernel_rfl, by kernel_rfl, by kernel_rfl, by kernel_rfl, by kernel_rfl⟩

theorem idx_at (S : Nat → Nat) (j : Nat) (hj : j < 5) (w : World) :
    (Instr.index 25 (.agg #[.float .f64 (S 0), .float .f64 (S 1), .float .f64 (S 2), .float .f64 (S 3), .float .f64 (S 4)]) (.int .i64 (j : Int))).run Try.prog w = .ok (.float .f64 (S j)) w := by
  obtain ⟨e0, e1, e2, e3, e4⟩ := idx S w
  match j, hj with
  | 0, _ => exact e0
  | 1, _ => exact e1
  | 2, _ => exact e2
  | 3, _ => exact e3
  | 4, _ => exact e4

/-- What is known of the answer k. -/
def Good (S : Nat → Nat) (k : Nat) : Prop := k ≤ 4 ∧ ((∀ i, i < 5 → z (S i) = true) → k = 0) ∧ ((∃ i, i < 5 ∧ z (S i) = false) → z (S k) = false)
theorem lastOf_le (S : Nat → Nat) (j : Nat) : lastOf S j ≤ j - 1 := by
  induction j with
  | zero => exact Nat.le_refl _
  | succ n ih => unfold lastOf; split <;> omega
theorem lastOf_zero (S : Nat → Nat) (j : Nat) (h : ∀ i, i < j → z (S i) = true) : lastOf S j = 0 := by
  induction j with
  | zero => rfl
  | succ n ih => unfold lastOf; rw [if_pos (h n (by omega))]; exact ih fun i hi => h i (by omega)
theorem lastOf_nz (S : Nat → Nat) (j : Nat) (h : ∃ i, i < j ∧ z (S i) = false) : z (S (lastOf S j)) = false := by
  induction j with
  | zero => obtain ⟨i, h1, _⟩ := h; omega
  | succ n ih =>
    unfold lastOf
    cases hz : z (S n)
    · simp [hz]
    · rw [if_pos rfl]
      obtain ⟨i, h1, h2⟩ := h
      refine ih ⟨i, ?_, h2⟩
      rcases Nat.lt_or_ge i n with a | a
      · exact a
      · rw [show i = n by omega, hz] at h2; cases h2
theorem good_last (S : Nat → Nat) : Good S (lastOf S 5) := ⟨by have := lastOf_le S 5; omega, lastOf_zero S 5, lastOf_nz S 5⟩
theorem good_at (S : Nat → Nat) (k : Nat) (hk : k ≤ 4) (h : z (S k) = false) : Good S k := ⟨hk, (fun a => by rw [a k (by omega)] at h; cases h), fun _ => h⟩
theorem last_succ (S : Nat → Nat) (j : Nat) : lastOf S (j + 1) = if z (S j) then lastOf S j else j := rfl

theorem ret_int {k : IntKind} {a b : Int} (h : a = b) : Ending.returned (.int k a) = .returned (.int k b) := by rw [h]
theorem below_drewN {B : Nat} {a w : World} (h : Below B a w) (q : Nat) : Below B a (w.drewN q) := by
  induction q with
  | zero => exact h
  | succ n ih => exact ih.drew

theorem kindOf_walk (S : Nat → Nat) (u b : Nat) (W : World) (hb : b = W.heap.size) :
    Calls Try.prog 8 #[.pointer (some ⟨b, 0, none⟩), .float .f64 u] (W.alloc (.cells #[.string { data := #[] }, .int .i64 0, .int .i64 0, .float .f64 (S 0), .float .f64 (S 1), .float .f64 (S 2), .float .f64 (S 3), .float .f64 (S 4), .string { data := #[] }, .int .i64 0, .string { data := #[] }, .int .i64 0, .int .i64 0] 33)) fun e w' => ∃ k : Nat, e = .returned (.int .i64 (k : Int)) ∧ Good S k ∧ Below W.heap.size W w' := by
  obtain ⟨V, hV⟩ : ∃ V, V = (.cells #[.string { data := #[] }, .int .i64 0, .int .i64 0, .float .f64 (S 0), .float .f64 (S 1), .float .f64 (S 2), .float .f64 (S 3), .float .f64 (S 4), .string { data := #[] }, .int .i64 0, .string { data := #[] }, .int .i64 0, .int .i64 0] 33 : Obj) := ⟨_, rfl⟩
  go_enter Try.func8, Try.ntmps8
  go_wp2
  rw [← hV]
  clear hV
  go_loopw [1, 5, 12] (fun x la c wr => ∃ (j y q : Nat), j ≤ 5 ∧ c = .int .i64 j ∧ x = .float .f64 y ∧ la = .int .i64 (lastOf S j : Nat) ∧ wr = (W.alloc V).drewN q) (fun _ _ c _ => 5 - (intOf c).toNat)
  case atStart => exact ⟨0, u, 0, by omega, rfl, rfl, rfl, rfl⟩
  case round =>
    obtain ⟨j, y, q, hj, rfl, rfl, rfl, rfl⟩ := hrel
    have hB := hide (below_drewN ((Below.refl _ W).alloc (Nat.le_refl _) V) q)
    by_cases hj5 : j < 5
    · have hix := idx_at S j hj5
      have HL := hide (last_succ S j)
      cases hz : z (S j)
      · have hzz : (FloatKind.f64.format.order (S j) 0 == some .eq) = false := hz
        have HZ := hide hz
        clear hz
        cases hlt : (FloatKind.f64.format.order y (S j) == some .lt)
        · obtain ⟨r, q2, hs⟩ := sub_any y (S j) ((W.alloc V).drewN q)
          go_wp2
          go_roundw
          case rel => exact ⟨j + 1, r, q + q2, by omega, by go_num, rfl, by rw [unhide HL, unhide HZ]; rfl, by first | rfl | (rw [World.drewN_drewN])⟩
          case measure => simp [intOf]; omega
        · go_wp2
          go_ret
          exact ⟨j, rfl, good_at S j (by omega) (unhide HZ), unhide hB⟩
      · have hzz : (FloatKind.f64.format.order (S j) 0 == some .eq) = true := hz
        have HZ := hide hz
        clear hz
        go_wp2
        go_roundw
        case rel => exact ⟨j + 1, y, q, by omega, by go_num, rfl, by rw [unhide HL, unhide HZ]; rfl, rfl⟩
        case measure => simp [intOf]; omega
    · obtain rfl : j = 5 := by omega
      go_wp2
      go_ret
      exact ⟨lastOf S 5, rfl, good_last S, unhide hB⟩

/-- The shim 'ZZKindOf'. -/
theorem shim_walk (S : Nat → Nat) (u : Nat) (w : World) :
    Calls Try.prog 6 #[.agg #[.float .f64 (S 0), .float .f64 (S 1), .float .f64 (S 2), .float .f64 (S 3), .float .f64 (S 4)], .float .f64 u] w fun e w' => ∃ k : Nat, e = .returned (.int .i64 (k : Int)) ∧ Good S k ∧ Below w.heap.size w w' := by
  go_enter Try.func6, Try.ntmps6
  go_wp2_with fail
  refine (kindOf_walk S u (w.heap.size + 1) (w.alloc (.cells #[.float .f64 (S 0), .float .f64 (S 1), .float .f64 (S 2), .float .f64 (S 3), .float .f64 (S 4)] 25)) (by simp)).mono ?_
  rintro e w' ⟨k, rfl, hk, hb⟩
  have HK := hide hk
  have HB := hide hb
  clear hk hb
  go_wp2
  go_ret
  exact ⟨k, rfl, unhide HK, ((Below.refl _ w).alloc (Nat.le_refl _) _).trans ((unhide HB).mono (by simp))⟩
end Go.Proofs.Qxb6600810a.Kind
