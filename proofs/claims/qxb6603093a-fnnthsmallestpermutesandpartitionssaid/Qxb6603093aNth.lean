/-
  Plain: a three-way partition of a part of an array, and what 'nthSmallest' leaves. No Go in sight.
-/
import Derived.Sort.Lot0
namespace Go.Proofs.Qxb6603093a.Nth
open Go.Sort (swp PermIn SortedIn size_swp swp_other swp_left swp_right permIn_refl permIn_trans permIn_all permIn_mono swp_permIn)

/-- Inside the partition of [lo, hi) round p: below B all are less, from B to I all are p, from A on all are greater. -/
structure PInv (d : Array Int) (lo hi : Nat) (p : Int) (B I A : Nat) : Prop where
  h1 : lo ≤ B
  h2 : B ≤ I
  h3 : I ≤ A
  h4 : A ≤ hi
  h5 : hi ≤ d.size
  lss : ∀ j, lo ≤ j → j < B → d[j]! < p
  eql : ∀ j, B ≤ j → j < I → d[j]! = p
  gtr : ∀ j, A ≤ j → j < hi → p < d[j]!
  mem : ∃ j, lo ≤ j ∧ j < hi ∧ d[j]! = p

theorem mem_perm {d d' : Array Int} {lo hi : Nat} {p : Int} (h : PermIn lo hi d d') (hh : hi ≤ d.size) (hm : ∃ j, lo ≤ j ∧ j < hi ∧ d[j]! = p) : ∃ j, lo ≤ j ∧ j < hi ∧ d'[j]! = p := by
  rcases Classical.em (∃ j, lo ≤ j ∧ j < hi ∧ d'[j]! = p) with h1 | h1
  · exact h1
  · obtain ⟨j, h2, h3, h4⟩ := hm
    have hback : PermIn lo hi d' d := ⟨h.1.symm, fun i hi => (h.2.1 i hi).symm, h.2.2.symm⟩
    exact absurd h4 (permIn_all d' d lo hi (fun x => x ≠ p) (by rw [h.1]; exact hh) hback (fun i a b e => h1 ⟨i, a, b, e⟩) j h2 h3)

theorem PInv.less {d : Array Int} {lo hi : Nat} {p : Int} {B I A : Nat} (h : PInv d lo hi p B I A) (hI : I < A) (hx : d[I]! < p) : PInv (swp d B I) lo hi p (B + 1) (I + 1) A := by
  have hp := swp_permIn d lo hi B I h.h1 (by have := h.h2; have := h.h4; omega) (by have := h.h1; have := h.h2; omega) (by have := h.h4; omega) h.h5
  have hs := size_swp d B I
  obtain ⟨h1, h2, h3, h4, h5, lss, eql, gtr, mem⟩ := h
  refine ⟨by omega, by omega, by omega, h4, by omega, fun j a b => ?_, fun j a b => ?_, fun j a b => ?_, mem_perm hp h5 mem⟩
  · by_cases e : j = B
    · subst e
      by_cases e2 : j = I
      · subst e2; rw [swp_right _ _ _ (by omega)]; exact hx
      · rw [swp_left _ _ _ (by omega) e2]; exact hx
    · rw [swp_other _ _ _ _ e (by omega)]; exact lss j a (by omega)
  · by_cases e : j = I
    · subst e; rw [swp_right _ _ _ (by omega)]; exact eql B (Nat.le_refl _) (by omega)
    · rw [swp_other _ _ _ _ (by omega) e]; exact eql j (by omega) (by omega)
  · rw [swp_other _ _ _ _ (by omega) (by omega)]; exact gtr j a b
theorem PInv.greater {d : Array Int} {lo hi : Nat} {p : Int} {B I A : Nat} (h : PInv d lo hi p B I (A + 1)) (hI : I < A + 1) (hx : p < d[I]!) : PInv (swp d A I) lo hi p B I A := by
  have hp := swp_permIn d lo hi A I (by have := h.h1; have := h.h2; have := h.h3; omega) (by have := h.h4; omega) (by have := h.h1; have := h.h2; omega) (by have := h.h4; omega) h.h5
  have hs := size_swp d A I
  obtain ⟨h1, h2, h3, h4, h5, lss, eql, gtr, mem⟩ := h
  refine ⟨by omega, by omega, by omega, by omega, by omega, fun j a b => ?_, fun j a b => ?_, fun j a b => ?_, mem_perm hp h5 mem⟩
  · rw [swp_other _ _ _ _ (by omega) (by omega)]; exact lss j a b
  · rw [swp_other _ _ _ _ (by omega) (by omega)]; exact eql j a b
  · by_cases e : j = A
    · subst e
      by_cases e2 : j = I
      · subst e2; rw [swp_right _ _ _ (by omega)]; exact hx
      · rw [swp_left _ _ _ (by omega) e2]; exact hx
    · rw [swp_other _ _ _ _ e (by omega)]; exact gtr j (by omega) b
theorem PInv.same {d : Array Int} {lo hi : Nat} {p : Int} {B I A : Nat} (h : PInv d lo hi p B I A) (hI : I < A) (hx : d[I]! = p) : PInv d lo hi p B (I + 1) A := by
  obtain ⟨h1, h2, h3, h4, h5, lss, eql, gtr, mem⟩ := h
  refine ⟨h1, by omega, by omega, h4, h5, lss, fun j a b => ?_, gtr, mem⟩
  by_cases e : j = I
  · subst e; exact hx
  · exact eql j a (by omega)
/-- At the end the part that equals p is not empty. -/
theorem PInv.some {d : Array Int} {lo hi : Nat} {p : Int} {B A : Nat} (h : PInv d lo hi p B A A) : B < A := by
  obtain ⟨h1, h2, h3, h4, h5, lss, eql, gtr, j, m1, m2, m3⟩ := h
  rcases Nat.lt_or_ge B A with k | k
  · exact k
  · rcases Nat.lt_or_ge j B with a | a
    · have := lss j m1 a; omega
    · have := gtr j (by omega) m2; omega

/-- What holds at the head of each round: d is a permutation of d0, the place P lies in [lo, hi), what lies ahead of lo is not greater than what lies from lo on, and so at hi. -/
structure Outer (d0 d : Array Int) (lo hi P : Nat) : Prop where
  perm : PermIn 0 d0.size d0 d
  h1 : lo ≤ P
  h2 : P < hi
  h3 : hi ≤ d.size
  low : ∀ i j, i < lo → lo ≤ j → j < d.size → d[i]! ≤ d[j]!
  high : ∀ i j, i < hi → hi ≤ j → j < d.size → d[i]! ≤ d[j]!
/-- What is left in the end. -/
structure Final (d0 d : Array Int) (P : Nat) (v : Int) : Prop where
  perm : PermIn 0 d0.size d0 d
  at_ : d[P]! = v
  low : ∀ i, i < P → d[i]! ≤ v
  high : ∀ j, P < j → j < d.size → v ≤ d[j]!

theorem Outer.start (d : Array Int) (P : Nat) (h : P < d.size) : Outer d d 0 d.size P :=
  ⟨permIn_refl _ _ _, Nat.zero_le _, h, Nat.le_refl _, fun i j a => by omega, fun i j _ a b => by omega⟩
/-- The part [lo, hi) permuted in itself. -/
theorem Outer.turn {d0 d d' : Array Int} {lo hi P : Nat} (h : Outer d0 d lo hi P) (hp : PermIn lo hi d d') : Outer d0 d' lo hi P := by
  obtain ⟨perm, h1, h2, h3, low, high⟩ := h
  have hs : d.size = d0.size := perm.1
  refine ⟨permIn_trans _ _ _ _ _ perm (permIn_mono d d' lo hi 0 d0.size (Nat.zero_le _) (by omega) (by omega) hp), h1, h2, by rw [hp.1]; exact h3, fun i j a b c => ?_, fun i j a b c => ?_⟩
  · rw [hp.2.1 i (.inl a)]
    rw [hp.1] at c
    rcases Nat.lt_or_ge j hi with k | k
    · exact permIn_all d d' lo hi (fun x => d[i]! ≤ x) h3 hp (fun j' a' b' => low i j' a a' (by omega)) j b k
    · rw [hp.2.1 j (.inr k)]; exact low i j a b c
  · rw [hp.2.1 j (.inr b)]
    rw [hp.1] at c
    rcases Nat.lt_or_ge i lo with k | k
    · rw [hp.2.1 i (.inl k)]; exact high i j a b c
    · exact permIn_all d d' lo hi (fun x => x ≤ d[j]!) h3 hp (fun i' a' b' => high i' j b' b c) i k a
theorem Outer.left {d0 d : Array Int} {lo hi P B A : Nat} {p : Int} (h : Outer d0 d lo hi P) (q : PInv d lo hi p B A A) (hB : P < B) : Outer d0 d lo B P := by
  obtain ⟨perm, h1, h2, h3, low, high⟩ := h
  obtain ⟨q1, q2, q3, q4, q5, lss, eql, gtr, mem⟩ := q
  refine ⟨perm, h1, hB, by omega, low, fun i j a b c => ?_⟩
  rcases Nat.lt_or_ge i lo with k | k
  · exact low i j k (by omega) c
  · have h6 := lss i k a
    rcases Nat.lt_or_ge j A with k2 | k2
    · have := eql j b k2; omega
    · rcases Nat.lt_or_ge j hi with k3 | k3
      · have := gtr j k2 k3; omega
      · exact high i j (by omega) k3 c
theorem Outer.right {d0 d : Array Int} {lo hi P B A : Nat} {p : Int} (h : Outer d0 d lo hi P) (q : PInv d lo hi p B A A) (hA : A ≤ P) : Outer d0 d A hi P := by
  obtain ⟨perm, h1, h2, h3, low, high⟩ := h
  obtain ⟨q1, q2, q3, q4, q5, lss, eql, gtr, mem⟩ := q
  refine ⟨perm, hA, h2, h3, fun i j a b c => ?_, high⟩
  rcases Nat.lt_or_ge i lo with k | k
  · exact low i j k (by omega) c
  · have h6 : d[i]! ≤ p := by
      rcases Nat.lt_or_ge i B with k2 | k2
      · have := lss i k k2; omega
      · have := eql i k2 a; omega
    rcases Nat.lt_or_ge j hi with k3 | k3
    · have := gtr j b k3; omega
    · exact high i j (by omega) k3 c
theorem Outer.mid {d0 d : Array Int} {lo hi P B A : Nat} {p : Int} (h : Outer d0 d lo hi P) (q : PInv d lo hi p B A A) (hB : B ≤ P) (hA : P < A) : Final d0 d P p := by
  obtain ⟨perm, h1, h2, h3, low, high⟩ := h
  obtain ⟨q1, q2, q3, q4, q5, lss, eql, gtr, mem⟩ := q
  have he := eql P hB hA
  refine ⟨perm, he, fun i a => ?_, fun j a c => ?_⟩
  · rcases Nat.lt_or_ge i lo with k | k
    · have := low i P k h1 (by omega); omega
    · rcases Nat.lt_or_ge i B with k2 | k2
      · have := lss i k k2; omega
      · have := eql i k2 (by omega); omega
  · rcases Nat.lt_or_ge j A with k | k
    · have := eql j (by omega) k; omega
    · rcases Nat.lt_or_ge j hi with k2 | k2
      · have := gtr j k k2; omega
      · have := high P j h2 k2 c; omega
/-- The part is sorted: in the end, and where it has one element alone. -/
theorem Outer.sorted {d0 d : Array Int} {lo hi P : Nat} (h : Outer d0 d lo hi P) (hs : ∀ i j, lo ≤ i → i < j → j < hi → d[i]! ≤ d[j]!) : Final d0 d P d[P]! := by
  obtain ⟨perm, h1, h2, h3, low, high⟩ := h
  refine ⟨perm, rfl, fun i a => ?_, fun j a c => ?_⟩
  · rcases Nat.lt_or_ge i lo with k | k
    · exact low i P k h1 (by omega)
    · exact hs i P k a h2
  · rcases Nat.lt_or_ge j hi with k | k
    · exact hs P j h1 a k
    · exact high P j h2 k c
theorem Outer.one {d0 d : Array Int} {lo hi P : Nat} (h : Outer d0 d lo hi P) (h1 : hi ≤ lo + 1) : Final d0 d P d[P]! := h.sorted fun i j a b c => by omega
end Go.Proofs.Qxb6603093a.Nth
