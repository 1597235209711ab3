/-
  The walk of 'FnNthSmallestPermutesAndPartitions' (function 6).
-/
import Derived.Test.Qxb6603093aNthWalk
import Derived.Test.Qxb6603093aHeap
namespace Go.Proofs.Qxb6603093a.fnNthSmallestPermutesAndPartitions
open Go.RowKit Go.PlainAid Ints Nth Heap
open Go.Sort (PermIn)

theorem bytes_any (a : Option Addr) (n cap : Nat) (x y : Int) (hn : n ≤ maxLen) (w : World) :
    Calls Try.prog 16 #[.slice a n cap, .int .i64 x, .int .i64 y] w fun e w' => e = .returned (.bool (decide ((n : Int) ≤ 1048576))) ∧ w' = w := by
  unfold maxLen at hn
  by_cases h : (n : Int) ≤ 1048576
  all_goals
    go_enter Try.func16, Try.ntmps16
    go_wp2
    go_ret
    exact ⟨by simp [h], rfl⟩

theorem below_drewN {B : Nat} {a w : World} (h : Below B a w) (q : Nat) : Below B a (w.drewN q) := by
  induction q with
  | zero => exact h
  | succ n ih => exact ih.drew

set_option maxRecDepth 100000 in
set_option maxHeartbeats 2000000 in
theorem main_walk (x : Addr) (n c P : Nat) (r : Int) (l : List Int) (w : World) (hl : l.length = n) (hn : n ≤ 131072) (hP : P < n) (hcell : ∀ j, j < n → w.cell? (x.add j) = some (.int .i64 (l.getD j 0))) :
    Calls Try.prog 6 #[.slice (some x) n c, .int .i64 (P : Int), .int .i64 r] w fun e w' => e = .returned (.bool true) ∧ Below w.heap.size w w' := by
  have HC := hide (clone_some x n c l w hl (by omega) hcell)
  have HL := hide (show l.toArray.size = n by simpa using hl)
  clear hcell hl
  have hd : decide ((n : Int) ≤ 1048576) = true := by simp; omega
  go_enter Try.func6, Try.ntmps6
  go_wp2_with (first | (go_at_call 16; refine (bytes_any _ _ _ _ _ (by unfold maxLen; omega) _).mono ?_; rintro e w' ⟨rfl, hw'⟩; obtain rfl := hw'.symm; rw [hd]) | fail)
  refine (unhide HC).mono ?_
  rintro e w1 ⟨rfl, ho1, hg1⟩
  have R1 := hide (row_of_own ho1)
  have HB1 : Hid (Below w.heap.size w w1) := (Below.refl _ _).grown hg1 (Nat.le_refl _) (by intro k h; cases h)
  have hw1 : w.heap.size < w1.heap.size := (ho1.lt _ rfl).2
  clear ho1 hg1 HC
  go_wp2_with fail
  refine (clone_row w.heap.size n n l.toArray w1 (unhide HL) (by omega) (unhide R1)).mono ?_
  rintro e w2 ⟨rfl, r2, hg2⟩
  have R1b := hide ((unhide R1).kept hg2 (by simp))
  have R2 := hide r2
  have HB2 : Hid (Below w.heap.size w w2) := HB1.out.grown hg2 (by omega) (by intro k h; cases h)
  have hw2 : w1.heap.size < w2.heap.size := r2.lt
  clear r2 hg2 R1 HB1
  go_wp2_with fail
  refine (shim_any w1.heap.size n P r l.toArray w2 (unhide R2) (unhide HL) (by omega) hP).mono ?_
  rintro e w3 ⟨d, v, rfl, r3, hf, hg3⟩
  have hds : d.size = n := by rw [hf.perm.1]; exact unhide HL
  have HDS := hide hds
  have R0 := hide ((unhide R1b).kept hg3 (by simp; omega))
  have R1 := hide r3
  have cP := r3.cell P (by omega)
  rw [hf.at_] at cP
  have HF := hide hf
  have HB3 : Hid (Below w.heap.size w w3) := HB2.out.grown hg3 (by omega) (by intro k h; cases h; omega)
  have hw3 : w2.heap.size ≤ w3.heap.size := hg3.size
  clear r3 hf hg3 R1b R2 HB2 hds
  go_wp2
  clear cP
  go_loop [9] (fun i => ∃ k : Nat, k ≤ P ∧ i = .int .i64 k) (fun i => P - (intOf i).toNat)
  case atStart => exact ⟨0, Nat.zero_le _, rfl⟩
  case round =>
    obtain ⟨k, hk, rfl⟩ := hrel
    by_cases hlt : k < P
    · have hc := (unhide R1).cell k (by rw [unhide HDS]; omega)
      obtain ⟨z, hz⟩ : ∃ z, d[k]! = z := ⟨_, rfl⟩
      rw [hz] at hc
      have hzv : z ≤ v := by rw [← hz]; exact (unhide HF).low k hlt
      clear hz
      go_wp2
      go_round
      case rel => exact ⟨k + 1, by omega, by go_num⟩
      case measure => simp [intOf]; omega
    · go_wp2
      go_loop [10] (fun i => ∃ k : Nat, P < k ∧ k ≤ n ∧ i = .int .i64 k) (fun i => n - (intOf i).toNat)
      case atStart => exact ⟨P + 1, by omega, by omega, by go_num⟩
      case round =>
        clear hlt hk
        obtain ⟨k, hk1, hk, rfl⟩ := hrel
        by_cases hlt : k < n
        · have hc := (unhide R1).cell k (by rw [unhide HDS]; omega)
          obtain ⟨z, hz⟩ : ∃ z, d[k]! = z := ⟨_, rfl⟩
          rw [hz] at hc
          have hzv : v ≤ z := by rw [← hz]; exact (unhide HF).high k hk1 (by rw [unhide HDS]; exact hlt)
          clear hz
          go_wp2
          go_round
          case rel => exact ⟨k + 1, by omega, by omega, by go_num⟩
          case measure => simp [intOf]; omega
        · go_wp2_with fail
          refine (clone_row w.heap.size n n l.toArray w3 (unhide HL) (by omega) (unhide R0)).mono ?_
          rintro e w4 ⟨rfl, r4, hg4⟩
          have R1b := hide ((unhide R1).kept hg4 (by simp))
          have R4 := hide r4
          have HB4 : Hid (Below w.heap.size w w4) := HB3.out.grown hg4 (by omega) (by intro k h; cases h)
          have hw4 : w3.heap.size < w4.heap.size := r4.lt
          clear r4 hg4 R1 R0 HB3
          go_wp2_with fail
          refine (heapSort_any w3.heap.size n l.toArray w4 (unhide R4) (unhide HL) (by omega) (by omega) n).mono ?_
          rintro e w5 ⟨rfl, r5, hg5⟩
          have R5 := hide r5
          have R1c := hide ((unhide R1b).kept hg5 (by simp; omega))
          have HB5 : Hid (Below w.heap.size w w5) := HB4.out.grown hg5 (by omega) (by intro k h; cases h; omega)
          have hw5 : w4.heap.size ≤ w5.heap.size := hg5.size
          clear r5 hg5 R4 R1b HB4
          go_wp2_with fail
          refine (clone_row w1.heap.size n n d w5 (unhide HDS) (by omega) (unhide R1c)).mono ?_
          rintro e w6 ⟨rfl, r6, hg6⟩
          have R6 := hide r6
          have R5b := hide ((unhide R5).kept hg6 (by simp))
          have HB6 : Hid (Below w.heap.size w w6) := HB5.out.grown hg6 (by omega) (by intro k h; cases h)
          have hw6 : w5.heap.size < w6.heap.size := r6.lt
          clear r6 hg6 R5 R1c HB5
          go_wp2_with fail
          refine (heapSort_any w5.heap.size n d w6 (unhide R6) (unhide HDS) (by omega) (by omega) n).mono ?_
          rintro e w7 ⟨rfl, r7, hg7⟩
          rw [← hsort_perm (unhide HF).perm] at r7
          have R7 := hide r7
          have R5c := hide ((unhide R5b).kept hg7 (by simp; omega))
          have HB7 : Hid (Below w.heap.size w w7) := HB6.out.grown hg7 (by omega) (by intro k h; cases h; omega)
          have HHS : Hid ((hsort l.toArray).size = n) := by have := (hsort_holds l.toArray).1.1; rw [unhide HL] at this; exact this
          clear r7 hg7 R6 R5b HB6 HF
          generalize hsort l.toArray = q at *
          go_wp2
          go_loopw [13] (fun i wr => ∃ k m : Nat, k ≤ n ∧ i = .int .i64 k ∧ wr = w7.drewN m) (fun i _ => n - (intOf i).toNat)
          case atStart => exact ⟨0, 0, Nat.zero_le _, rfl, rfl⟩
          case round =>
            clear hlt hk hk1
            obtain ⟨k, m, hk, rfl, rfl⟩ := hrel
            by_cases hlt : k < n
            · have c1 := (unhide R5c).cell k (by rw [HHS.out]; exact hlt)
              have c2 := (unhide R7).cell k (by rw [HHS.out]; exact hlt)
              obtain ⟨z, hz⟩ : ∃ z, q[k]! = z := ⟨_, rfl⟩
              rw [hz] at c1 c2
              clear hz
              go_wp2
              go_quiet (fail)
              go_wp2
              go_roundw
              case rel => exact ⟨k + 1, _, by omega, by go_num, rfl⟩
              case measure => simp [intOf]; omega
            · have HB8 := hide (below_drewN HB7.out m)
              go_wp2
              go_ret
              exact ⟨rfl, unhide HB8⟩
end Go.Proofs.Qxb6603093a.fnNthSmallestPermutesAndPartitions
