/-
  The walk of 'FnKindOfNeverPicksZeroShare' (function 4).
-/
import Derived.Test.Qxb6600810aKind
namespace Go.Proofs.Qxb6600810a.fnKindOfNeverPicksZeroShare
open Go.RowKit Go.PlainAid Kind

/-- Is one of the first j shares not zero? -/
def some' (S : Nat → Nat) : Nat → Bool
  | 0 => false
  | j + 1 => some' S j || !z (S j)
theorem some_succ (S : Nat → Nat) (j : Nat) : some' S (j + 1) = (some' S j || !z (S j)) := rfl
theorem some_ex (S : Nat → Nat) (j : Nat) (h : some' S j = true) : ∃ i, i < j ∧ z (S i) = false := by
  induction j with
  | zero => cases h
  | succ n ih =>
    rw [some_succ] at h
    cases hz : z (S n)
    · exact ⟨n, by omega, hz⟩
    · rw [hz] at h
      obtain ⟨i, a, b⟩ := ih (by simpa using h)
      exact ⟨i, by omega, b⟩
theorem some_all (S : Nat → Nat) (j : Nat) (h : some' S j = false) : ∀ i, i < j → z (S i) = true := by
  induction j with
  | zero => intro i hi; omega
  | succ n ih =>
    rw [some_succ, Bool.or_eq_false_iff] at h
    intro i hi
    rcases Nat.lt_or_ge i n with a | a
    · exact ih h.1 i a
    · rw [show i = n by omega]; simpa using h.2

theorem ret_eq {a : Int} (h : a = 0) : Ending.returned (.bool (a == 0)) = .returned (.bool true) := by subst h; rfl
theorem ret_true {b : Bool} (h : b = true) : Ending.returned (.bool b) = .returned (.bool true) := by rw [h]

theorem cell_at (S : Nat → Nat) (w : World) (j : Nat) (hj : j < 5) : (w.alloc (.cells #[.float .f64 (S 0), .float .f64 (S 1), .float .f64 (S 2), .float .f64 (S 3), .float .f64 (S 4)] 25)).cell? ⟨w.heap.size, j, none⟩ = some (.float .f64 (S j)) := by
  rw [World.cell?_alloc_at _ _ _ _ rfl]
  match j, hj with
  | 0, _ => rfl
  | 1, _ => rfl
  | 2, _ => rfl
  | 3, _ => rfl
  | 4, _ => rfl

theorem main_walk (S : Nat → Nat) (u : Nat) (w : World) :
    Calls Try.prog 4 #[.agg #[.float .f64 (S 0), .float .f64 (S 1), .float .f64 (S 2), .float .f64 (S 3), .float .f64 (S 4)], .float .f64 u] w fun e w' => e = .returned (.bool true) ∧ Below w.heap.size w w' := by
  have hcell := hide (cell_at S w)
  go_enter Try.func4, Try.ntmps4
  go_wp2_with fail
  refine (shim_walk S u _).mono ?_
  rintro e w1 ⟨k, rfl, hk, hb⟩
  have hk4 := hk.1
  have HK := hide hk
  have HC : Hid (∀ j, j < 5 → w1.cell? ⟨w.heap.size, j, none⟩ = some (.float .f64 (S j))) := fun j hj => by
    rw [hb.cell (by simp)]; exact unhide hcell j hj
  have HB : Hid (Below w.heap.size w w1) := ((Below.refl _ w).alloc (Nat.le_refl _) _).trans (hb.mono (by simp))
  clear hk hb hcell
  go_wp2
  go_loop [6, 7] (fun sm i => ∃ j : Nat, j ≤ 5 ∧ i = .int .i64 j ∧ sm = .bool (some' S j)) (fun _ i => 5 - (intOf i).toNat)
  case atStart => exact ⟨0, Nat.zero_le _, rfl, rfl⟩
  case round =>
    obtain ⟨j, hj, rfl, rfl⟩ := hrel
    by_cases hlt : j < 5
    · have hc := HC.out j hlt
      have HS := hide (some_succ S j)
      cases hz : z (S j)
      · have hzz : (FloatKind.f64.format.order (S j) 0 != some .eq) = true := by unfold z at hz; simp only [bne, hz]; rfl
        have HZ := hide hz
        clear hz
        go_wp2
        go_round
        case rel => exact ⟨j + 1, by omega, by go_num, by rw [unhide HS, unhide HZ]; simp⟩
        case measure => simp [intOf]; omega
      · have hzz : (FloatKind.f64.format.order (S j) 0 != some .eq) = false := by unfold z at hz; simp only [bne, hz]; rfl
        have HZ := hide hz
        clear hz
        go_wp2
        go_round
        case rel => exact ⟨j + 1, by omega, by go_num, by rw [unhide HS, unhide HZ]; simp⟩
        case measure => simp [intOf]; omega
    · obtain rfl : j = 5 := by omega
      have hck := HC.out k (by omega)
      cases hs : some' S 5
      · have HA := hide ((unhide HK).2.1 (some_all S 5 hs))
        go_wp2
        go_ret
        exact ⟨ret_eq (by rw [unhide HA]; rfl), HB.out⟩
      · have HZ := hide ((unhide HK).2.2 (some_ex S 5 hs))
        go_wp2
        go_ret
        exact ⟨ret_true (by have := unhide HZ; unfold z at this; simp only [bne, this]; rfl), HB.out⟩
end Go.Proofs.Qxb6600810a.fnKindOfNeverPicksZeroShare
