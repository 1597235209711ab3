/-
  The walks of kindOf (8) and its shim (6) at dyadic shares, and of kindModel (7).
-/
import Derived.Test.Qxb6600810aKind
import Derived.Test.Qxb6600810aDyadic
namespace Go.Proofs.Qxb6600810a.Exact
open Go.RowKit Go.PlainAid Kind

/-! ### The plain law -/
/-- The running total of the first j numerators. -/
def run (N : Nat → Nat) : Nat → Nat
  | 0 => 0
  | j + 1 => run N j + N j
theorem run_succ (N : Nat → Nat) (j : Nat) : run N (j + 1) = run N j + N j := rfl
/-- The last of the first j kinds whose numerator is not zero; 0 if there is none. -/
def lastN (N : Nat → Nat) : Nat → Nat
  | 0 => 0
  | j + 1 => if N j = 0 then lastN N j else j
theorem lastN_succ (N : Nat → Nat) (j : Nat) : lastN N (j + 1) = if N j = 0 then lastN N j else j := rfl
/-- k is the kind that m draws: the first at which the running total exceeds m; else the last with a share. -/
def IsKind (N : Nat → Nat) (m k : Nat) : Prop := (k < 5 ∧ m < run N (k + 1) ∧ ∀ i, i < k → run N (i + 1) ≤ m) ∨ ((∀ i, i < 5 → run N (i + 1) ≤ m) ∧ k = lastN N 5)
/-- ████ THE PLAIN LAW: there is one such kind ████ -/
theorem one_kind {N : Nat → Nat} {m k k' : Nat} (h : IsKind N m k) (h' : IsKind N m k') : k = k' := by
  rcases h with ⟨a1, a2, a3⟩ | ⟨a1, a2⟩
  · rcases h' with ⟨b1, b2, b3⟩ | ⟨b1, b2⟩
    · rcases Nat.lt_trichotomy k k' with h | h | h
      · have := b3 k h; omega
      · exact h
      · have := a3 k' h; omega
    · have := b1 k a1; omega
  · rcases h' with ⟨b1, b2, b3⟩ | ⟨b1, b2⟩
    · have := a1 k' b1; omega
    · rw [a2, b2]

/-! ### kindOf -/
theorem idx_dy (N : Nat → Nat) (j : Nat) (hj : j < 5) (w : World) :
    (Instr.index 25 (.agg #[.float .f64 (Dy.X (N 0)), .float .f64 (Dy.X (N 1)), .float .f64 (Dy.X (N 2)), .float .f64 (Dy.X (N 3)), .float .f64 (Dy.X (N 4))]) (.int .i64 (j : Int))).run Try.prog w = .ok (.float .f64 (Dy.X (N j))) w :=
  idx_at (fun i => Dy.X (N i)) j hj w
theorem kindOf_dy (N : Nat → Nat) (m b : Nat) (hN : ∀ i, N i < 2 ^ 32) (hm : m < 2 ^ 32) (W : World) (hb : b = W.heap.size) :
    Calls Try.prog 8 #[.pointer (some ⟨b, 0, none⟩), .float .f64 (Dy.X m)] (W.alloc (.cells #[.string { data := #[] }, .int .i64 0, .int .i64 0, .float .f64 (Dy.X (N 0)), .float .f64 (Dy.X (N 1)), .float .f64 (Dy.X (N 2)), .float .f64 (Dy.X (N 3)), .float .f64 (Dy.X (N 4)), .string { data := #[] }, .int .i64 0, .string { data := #[] }, .int .i64 0, .int .i64 0] 33)) fun e w' => ∃ k : Nat, e = .returned (.int .i64 (k : Int)) ∧ IsKind N m k ∧ Below W.heap.size W w' := by
  have HN := hide hN
  clear hN
  obtain ⟨V, hV⟩ : ∃ V, V = (.cells #[.string { data := #[] }, .int .i64 0, .int .i64 0, .float .f64 (Dy.X (N 0)), .float .f64 (Dy.X (N 1)), .float .f64 (Dy.X (N 2)), .float .f64 (Dy.X (N 3)), .float .f64 (Dy.X (N 4)), .string { data := #[] }, .int .i64 0, .string { data := #[] }, .int .i64 0, .int .i64 0] 33 : Obj) := ⟨_, rfl⟩
  go_enter Try.func8, Try.ntmps8
  go_wp2
  rw [← hV]
  clear hV
  have hB := hide ((Below.refl _ W).alloc (Nat.le_refl _) V)
  go_loop [1, 5, 12] (fun x la c => ∃ j : Nat, j ≤ 5 ∧ c = .int .i64 j ∧ x = .float .f64 (Dy.X (m - run N j)) ∧ la = .int .i64 (lastN N j : Nat) ∧ run N j ≤ m ∧ ∀ i, i < j → run N (i + 1) ≤ m) (fun _ _ c => 5 - (intOf c).toNat)
  case atStart => exact ⟨0, by omega, rfl, rfl, rfl, Nat.zero_le _, fun i hi => by omega⟩
  case round =>
    obtain ⟨j, hj, rfl, rfl, rfl, hr, ha⟩ := hrel
    have HA := hide ha
    clear ha
    by_cases hj5 : j < 5
    · have hix := idx_dy N j hj5
      have rx := Dy.X_reads (m - run N j) (by omega)
      have ry := Dy.X_reads (N j) (unhide HN j)
      have hz : (FloatKind.f64.format.order (Dy.X (N j)) 0 == some .eq) = decide (N j = 0) := Dy.eq_zero_reads ry
      have hl : (FloatKind.f64.format.order (Dy.X (m - run N j)) (Dy.X (N j)) == some .lt) = decide (m - run N j < N j) := Dy.lt_reads rx ry
      have HL := hide (lastN_succ N j)
      have HR := hide (run_succ N j)
      by_cases h0 : N j = 0
      · rw [decide_eq_true h0] at hz
        have H0 := hide h0
        clear rx ry hl h0
        go_wp2
        go_round
        case rel =>
          have e1 := unhide H0
          have e2 : run N (j + 1) = run N j := by have := unhide HR; omega
          exact ⟨j + 1, by omega, by go_num, by rw [e2], by rw [unhide HL, if_pos e1], by rw [e2]; exact hr, fun i hi => by
            rcases Nat.lt_or_ge i j with c | c
            · exact unhide HA i c
            · rw [show i = j by omega, e2]; exact hr⟩
        case measure => simp [intOf]; omega
      · rw [decide_eq_false h0] at hz
        by_cases h1 : m - run N j < N j
        · rw [decide_eq_true h1] at hl
          have HK : Hid (IsKind N m j) := .inl ⟨hj5, by rw [run_succ]; omega, unhide HA⟩
          clear rx ry h0 h1
          go_wp2
          go_ret
          exact ⟨j, rfl, HK.out, unhide hB⟩
        · rw [decide_eq_false h1] at hl
          have hs := fun w => run_float_arith (P := Try.prog) w .sub 24 .f64 _ _ _ (show floatBits .sub .f64 (Dy.X (m - run N j)) (Dy.X (N j)) = some (Dy.X (m - run N j - N j)) from Dy.sub_reads rx ry (by omega) (by omega))
          have H0 := hide h0
          have H1 := hide h1
          clear rx ry h0 h1
          go_wp2
          go_round
          case rel =>
            have e1 := unhide H0
            have e2 := unhide HR
            have e3 := unhide H1
            exact ⟨j + 1, by omega, by go_num, by rw [e2, Nat.sub_sub], by rw [unhide HL, if_neg e1], by rw [e2]; omega, fun i hi => by
              rcases Nat.lt_or_ge i j with c | c
              · exact unhide HA i c
              · rw [show i = j by omega, e2]; omega⟩
          case measure => simp [intOf]; omega
    · obtain rfl : j = 5 := by omega
      go_wp2
      go_ret
      exact ⟨lastN N 5, rfl, .inr ⟨unhide HA, rfl⟩, unhide hB⟩

/-- The shim 'ZZKindOf'. -/
theorem shim_dy (N : Nat → Nat) (m : Nat) (hN : ∀ i, N i < 2 ^ 32) (hm : m < 2 ^ 32) (w : World) :
    Calls Try.prog 6 #[.agg #[.float .f64 (Dy.X (N 0)), .float .f64 (Dy.X (N 1)), .float .f64 (Dy.X (N 2)), .float .f64 (Dy.X (N 3)), .float .f64 (Dy.X (N 4))], .float .f64 (Dy.X m)] w fun e w' => ∃ k : Nat, e = .returned (.int .i64 (k : Int)) ∧ IsKind N m k ∧ Below w.heap.size w w' := by
  have HN := hide hN
  clear hN
  go_enter Try.func6, Try.ntmps6
  go_wp2_with fail
  refine (kindOf_dy N m (w.heap.size + 1) (unhide HN) hm (w.alloc (.cells #[.float .f64 (Dy.X (N 0)), .float .f64 (Dy.X (N 1)), .float .f64 (Dy.X (N 2)), .float .f64 (Dy.X (N 3)), .float .f64 (Dy.X (N 4))] 25)) (by simp)).mono ?_
  rintro e w' ⟨k, rfl, hk, hb⟩
  have HK := hide hk
  have HB := hide hb
  clear hk hb
  go_wp2
  go_ret
  exact ⟨k, rfl, unhide HK, ((Below.refl _ w).alloc (Nat.le_refl _) _).trans ((unhide HB).mono (by simp))⟩
end Go.Proofs.Qxb6600810a.Exact
