/-
  The walk of 'FnNthSmallestIsRankStatistic' (function 5), and its plain law.
-/
import Derived.Test.Qxb6603093aNthWalk
namespace Go.Proofs.Qxb6603093a.fnNthSmallestIsRankStatistic
open Go.RowKit Go.PlainAid Ints Nth
open Go.Sort (PermIn)

/-! ### The plain law -/
/-- How many of the first k are less than v; not greater than v. -/
def cl (d : Array Int) (v : Int) : Nat → Nat
  | 0 => 0
  | k + 1 => cl d v k + if d[k]! < v then 1 else 0
def ce (d : Array Int) (v : Int) : Nat → Nat
  | 0 => 0
  | k + 1 => ce d v k + if d[k]! ≤ v then 1 else 0
theorem cl_succ (d : Array Int) (v : Int) (k : Nat) : cl d v (k + 1) = cl d v k + if d[k]! < v then 1 else 0 := rfl
theorem ce_succ (d : Array Int) (v : Int) (k : Nat) : ce d v (k + 1) = ce d v k + if d[k]! ≤ v then 1 else 0 := rfl
theorem cl_le (d : Array Int) (v : Int) (k : Nat) : cl d v k ≤ k := by
  induction k with
  | zero => exact Nat.le_refl _
  | succ n ih => rw [cl_succ]; split <;> omega
theorem ce_le (d : Array Int) (v : Int) (k : Nat) : ce d v k ≤ k := by
  induction k with
  | zero => exact Nat.le_refl _
  | succ n ih => rw [ce_succ]; split <;> omega
theorem cl_count (d : Array Int) (v : Int) (k : Nat) (h : k ≤ d.size) : cl d v k = (d.toList.take k).countP (fun x => decide (x < v)) := by
  induction k with
  | zero => rfl
  | succ n ih =>
    rw [List.take_succ_eq_append_getElem (show n < d.toList.length by simp; omega), List.countP_append, ← ih (by omega), cl_succ, getElem!_pos d n (by omega)]
    simp [List.countP_cons]
theorem ce_count (d : Array Int) (v : Int) (k : Nat) (h : k ≤ d.size) : ce d v k = (d.toList.take k).countP (fun x => decide (x ≤ v)) := by
  induction k with
  | zero => rfl
  | succ n ih =>
    rw [List.take_succ_eq_append_getElem (show n < d.toList.length by simp; omega), List.countP_append, ← ih (by omega), ce_succ, getElem!_pos d n (by omega)]
    simp [List.countP_cons]
theorem perm_list {d0 d : Array Int} (h : PermIn 0 d0.size d0 d) : d.toList.Perm d0.toList := by
  have h2 := h.2.2
  rw [show d0.extract 0 d0.size = d0 from by simp] at h2
  rw [show d0.size = d.size from h.1.symm, show d.extract 0 d.size = d from by simp] at h2
  exact h2
theorem cl_perm {d0 d : Array Int} (h : PermIn 0 d0.size d0 d) (v : Int) : cl d0 v d0.size = cl d v d.size := by
  rw [cl_count _ _ _ (Nat.le_refl _), cl_count _ _ _ (Nat.le_refl _), List.take_of_length_le (by simp), List.take_of_length_le (by simp)]
  exact ((perm_list h).countP_eq _).symm
theorem ce_perm {d0 d : Array Int} (h : PermIn 0 d0.size d0 d) (v : Int) : ce d0 v d0.size = ce d v d.size := by
  rw [ce_count _ _ _ (Nat.le_refl _), ce_count _ _ _ (Nat.le_refl _), List.take_of_length_le (by simp), List.take_of_length_le (by simp)]
  exact ((perm_list h).countP_eq _).symm
theorem rank_low {d0 d : Array Int} {P : Nat} {v : Int} (h : Final d0 d P v) : cl d0 v d0.size ≤ P := by
  rw [cl_perm h.perm]
  have key : ∀ k, k ≤ d.size → cl d v k ≤ P := by
    intro k
    induction k with
    | zero => intro _; exact Nat.zero_le _
    | succ n ih =>
      intro hk
      rcases Nat.lt_or_ge n P with a | a
      · have := cl_le d v (n + 1); omega
      · have hv : ¬ d[n]! < v := by
          rcases Nat.eq_or_lt_of_le a with e | e
          · rw [← e, h.at_]; omega
          · have := h.high n e (by omega); omega
        rw [cl_succ, if_neg hv]
        exact ih (by omega)
  exact key _ (Nat.le_refl _)
theorem rank_high {d0 d : Array Int} {P : Nat} {v : Int} (h : Final d0 d P v) (hP : P < d0.size) : P < ce d0 v d0.size := by
  rw [ce_perm h.perm]
  have key : ∀ k, k ≤ P + 1 → ce d v k = k := by
    intro k
    induction k with
    | zero => intro _; rfl
    | succ n ih =>
      intro hk
      have hv : d[n]! ≤ v := by
        rcases Nat.lt_or_ge n P with a | a
        · exact h.low n a
        · rw [show n = P by omega, h.at_]; exact Int.le_refl _
      rw [ce_succ, if_pos hv, ih (by omega)]
  have mono : ∀ a b, a ≤ b → ce d v a ≤ ce d v b := by
    intro a b hab
    induction b with
    | zero => rw [show a = 0 by omega]; exact Nat.le_refl _
    | succ n ih =>
      rcases Nat.eq_or_lt_of_le hab with e | e
      · rw [e]; exact Nat.le_refl _
      · have := ih (by omega)
        rw [ce_succ]
        omega
  have h1 := key (P + 1) (Nat.le_refl _)
  have h2 := mono (P + 1) d.size (by rw [h.perm.1]; exact hP)
  omega

/-! ### The walk -/
theorem bytes_any (a : Option Addr) (n cap : Nat) (x y : Int) (hn : n ≤ maxLen) (w : World) :
    Calls Try.prog 13 #[.slice a n cap, .int .i64 x, .int .i64 y] w fun e w' => e = .returned (.bool (decide ((n : Int) ≤ 1048576))) ∧ w' = w := by
  unfold maxLen at hn
  by_cases h : (n : Int) ≤ 1048576
  all_goals
    go_enter Try.func13, Try.ntmps13
    go_wp2
    go_ret
    exact ⟨by simp [h], rfl⟩

set_option maxHeartbeats 1000000 in
theorem main_walk (x : Addr) (n c P : Nat) (r : Int) (l : List Int) (w : World) (hl : l.length = n) (hn : n ≤ 131072) (hP : P < n) (hcell : ∀ j, j < n → w.cell? (x.add j) = some (.int .i64 (l.getD j 0))) :
    Calls Try.prog 5 #[.slice (some x) n c, .int .i64 (P : Int), .int .i64 r] w fun e w' => e = .returned (.bool true) ∧ Below w.heap.size w w' := by
  have HC := hide (clone_some x n c l w hl (by omega) hcell)
  have HL := hide hl
  clear hcell hl
  have hd : decide ((n : Int) ≤ 1048576) = true := by simp; omega
  go_enter Try.func5, Try.ntmps5
  go_wp2_with (first | (go_at_call 13; refine (bytes_any _ _ _ _ _ (by unfold maxLen; omega) _).mono ?_; rintro e w' ⟨rfl, hw'⟩; obtain rfl := hw'.symm; rw [hd]) | fail)
  refine (unhide HC).mono ?_
  rintro e w1 ⟨rfl, ho1, hg1⟩
  have R1 := hide (row_of_own ho1)
  have HG1 := hide hg1
  have hw1 : w.heap.size < w1.heap.size := (ho1.lt _ rfl).2
  clear ho1 hg1 HC
  go_wp2_with fail
  refine (clone_row w.heap.size n n l.toArray w1 (by simpa using unhide HL) (by omega) (unhide R1)).mono ?_
  rintro e w2 ⟨rfl, r2, hg2⟩
  have R1b := hide ((unhide R1).kept hg2 (by simp))
  have R2 := hide r2
  have HG2 := hide hg2
  have hw2 : w1.heap.size < w2.heap.size := r2.lt
  clear r2 hg2 R1
  go_wp2_with fail
  refine (shim_any w1.heap.size n P r l.toArray w2 (unhide R2) (by simpa using unhide HL) (by omega) hP).mono ?_
  rintro e w3 ⟨d, v, rfl, r3, hf, hg3⟩
  have R1c := hide ((unhide R1b).kept hg3 (by simp; omega))
  have HLOW := hide (rank_low hf)
  have HHIGH := hide (rank_high hf (by simp [unhide HL]; exact hP))
  have HB3 : Hid (Below w.heap.size w w3) := by
    have b1 : Below w.heap.size w w1 := (Below.refl _ _).grown (unhide HG1) (Nat.le_refl _) (by intro k h; cases h)
    have b2 : Below w.heap.size w w2 := b1.grown (unhide HG2) (by omega) (by intro k h; cases h)
    exact b2.grown hg3 (by omega) (by intro k h; cases h; omega)
  clear r3 hf hg3 R1b R2 HG1 HG2
  go_wp2
  go_loop [9, 10, 11] (fun bl na i => ∃ k : Nat, k ≤ n ∧ i = .int .i64 k ∧ bl = .int .i64 (cl l.toArray v k : Nat) ∧ na = .int .i64 (ce l.toArray v k : Nat)) (fun _ _ i => n - (intOf i).toNat)
  case atStart => exact ⟨0, Nat.zero_le _, rfl, rfl, rfl⟩
  case round =>
    obtain ⟨k, hk, rfl, rfl, rfl⟩ := hrel
    have b1 := cl_le l.toArray v k
    have b2 := ce_le l.toArray v k
    by_cases hlt : k < n
    · have hc := (unhide R1c).cell k (by simp [unhide HL]; exact hlt)
      obtain ⟨z, hz⟩ : ∃ z, l.toArray[k]! = z := ⟨_, rfl⟩
      rw [hz] at hc
      have HZ := hide hz
      clear hz
      by_cases h1 : z < v
      · go_wp2
        go_round
        case rel => exact ⟨k + 1, by omega, by go_num, by rw [cl_succ, unhide HZ, if_pos h1]; go_num, by rw [ce_succ, unhide HZ, if_pos (by omega)]; go_num⟩
        case measure => simp [intOf]; omega
      · by_cases h2 : z ≤ v
        · go_wp2
          go_round
          case rel => exact ⟨k + 1, by omega, by go_num, by rw [cl_succ, unhide HZ, if_neg h1]; go_num, by rw [ce_succ, unhide HZ, if_pos h2]; go_num⟩
          case measure => simp [intOf]; omega
        · go_wp2
          go_round
          case rel => exact ⟨k + 1, by omega, by go_num, by rw [cl_succ, unhide HZ, if_neg h1]; go_num, by rw [ce_succ, unhide HZ, if_neg h2]; go_num⟩
          case measure => simp [intOf]; omega
    · obtain rfl : k = n := by omega
      have c1 : cl l.toArray v k ≤ P := by have := unhide HLOW; rw [show l.toArray.size = k from by simpa using unhide HL] at this; exact this
      have c2 : P < ce l.toArray v k := by have := unhide HHIGH; rw [show l.toArray.size = k from by simpa using unhide HL] at this; exact this
      go_wp2
      go_ret
      exact ⟨rfl, unhide HB3⟩
end Go.Proofs.Qxb6603093a.fnNthSmallestIsRankStatistic
