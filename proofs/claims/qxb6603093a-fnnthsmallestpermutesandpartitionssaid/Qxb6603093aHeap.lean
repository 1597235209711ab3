/-
  The contracts of the program's own 'siftDown' (26) and 'heapSort' (17), by the kit's plain functions of the same shape.
-/
import Derived.Test.Qxb6603093aInts
import Derived.Sort.LotA
import Derived.Sort.LotB
namespace Go.Proofs.Qxb6603093a.Heap
open Go.RowKit Go.PlainAid Ints
open Go.Sort (swp PermIn SortedIn size_swp permIn_refl permIn_trans swp_permIn siftDown heapBuild heapPop ltInt swo_ltInt)

/-! ### One round of the sift -/
theorem sift_out (hi r : Nat) (d : Array Int) (h : hi ≤ 2 * r + 1) : siftDown ltInt hi 0 r d = d := by
  rw [siftDown, dif_pos h]
theorem sift_right (hi r : Nat) (d : Array Int) (h : 2 * r + 1 + 1 < hi) (h1 : d[2 * r + 1]! < d[2 * r + 1 + 1]!) :
    siftDown ltInt hi 0 r d = if d[r]! < d[2 * r + 1 + 1]! then siftDown ltInt hi 0 (2 * r + 1 + 1) (swp d r (2 * r + 1 + 1)) else d := by
  rw [siftDown, dif_neg (by omega)]
  simp only [Nat.zero_add]
  rw [if_pos (by simp [ltInt, h, h1])]
  by_cases h2 : d[r]! < d[2 * r + 1 + 1]!
  · rw [if_neg (by simp [ltInt]; exact h2), dif_pos h, if_pos h2]
  · rw [if_pos (by simp only [ltInt, Bool.not_eq_true', decide_eq_false_iff_not]; exact h2), if_neg h2]
theorem sift_left (hi r : Nat) (d : Array Int) (h : 2 * r + 1 < hi) (h1 : ¬ (2 * r + 1 + 1 < hi ∧ d[2 * r + 1]! < d[2 * r + 1 + 1]!)) :
    siftDown ltInt hi 0 r d = if d[r]! < d[2 * r + 1]! then siftDown ltInt hi 0 (2 * r + 1) (swp d r (2 * r + 1)) else d := by
  rw [siftDown, dif_neg (by omega)]
  simp only [Nat.zero_add]
  rw [if_neg (by simpa [ltInt] using h1)]
  by_cases h2 : d[r]! < d[2 * r + 1]!
  · rw [if_neg (by simp [ltInt]; exact h2), if_pos h2]
  · rw [if_pos (by simp [ltInt]; omega), if_neg h2]

theorem row_drewN {w : World} {S : Nat} {d : Array Int} (h : Row w S d) (q : Nat) : Row (w.drewN q) S d := by
  induction q with
  | zero => exact h
  | succ n ih => exact ih
theorem grown_drewN {a w : World} {r : Option Nat} (h : a.grownBy w r) (q : Nat) : a.grownBy (w.drewN q) r := by
  induction q with
  | zero => exact h
  | succ n ih => exact ⟨ih.os, ih.tape, ih.output, ih.size, ih.block⟩
/-- Behind the exchange, whatever was drawn. -/
theorem swapped {w wr : World} {S : Nat} {d : Array Int} (h : Row wr S d) (hg : w.grownBy wr (some S)) (i j : Nat) {x y : Int} (hx : d[i]! = x) (hy : d[j]! = y) (q : Nat) :
    Row (((wr.drewN q).setCell ⟨S, i, none⟩ (.int .i64 y)).setCell ⟨S, j, none⟩ (.int .i64 x)) S (swp d i j) ∧ w.grownBy (((wr.drewN q).setCell ⟨S, i, none⟩ (.int .i64 y)).setCell ⟨S, j, none⟩ (.int .i64 x)) (some S) := by
  rw [← hx, ← hy]
  exact ⟨(row_drewN h q).swap i j, grownBy_trans (grownBy_trans (grown_drewN hg q) (grownBy_set _ _ _ _)) (grownBy_set _ _ _ _)⟩

set_option maxHeartbeats 1000000 in
theorem sift_any (S n c root hi : Nat) (d0 : Array Int) (w : World) (hr : Row w S d0) (hn : d0.size = n) (hn1 : n ≤ 1048576) (hh : hi ≤ n) (hro : root ≤ n) :
    Calls Try.prog 26 #[.slice (some ⟨S, 0, none⟩) n c, .int .i64 (root : Int), .int .i64 (hi : Int)] w fun e w' => e = .returned (.tuple #[]) ∧ Row w' S (siftDown ltInt hi 0 root d0) ∧ (siftDown ltInt hi 0 root d0).size = n ∧ w.grownBy w' (some S) := by
  obtain ⟨D, hD⟩ : ∃ D, siftDown ltInt hi 0 root d0 = D := ⟨_, rfl⟩
  rw [hD]
  have HD := hide hD
  have HR := hide hr
  have HN := hide hn
  clear hD hr hn
  go_enter Try.func26, Try.ntmps26
  go_wp2
  go_loopw [1, 6] (fun ro _ wr => ∃ (r : Nat) (d : Array Int), r ≤ n ∧ ro = .int .i64 r ∧ d.size = n ∧ Row wr S d ∧ siftDown ltInt hi 0 r d = D ∧ w.grownBy wr (some S)) (fun ro _ _ => hi - (intOf ro).toNat)
  case atStart => exact ⟨root, d0, hro, rfl, unhide HN, unhide HR, unhide HD, World.grownBy.refl _ _⟩
  case round =>
    clear HR HN HD
    obtain ⟨r, d, hrn, rfl, hds, hrow, hsd, hgr⟩ := hrel
    obtain ⟨k, hk⟩ : ∃ k, 2 * r + 1 = k := ⟨_, rfl⟩
    have hk2 : 2 * (r : Int) + 1 = (k : Int) := by omega
    by_cases h1 : k < hi
    · have cr := hrow.cell r (by omega)
      have cl := hrow.cell k (by omega)
      have fr := hrow.frozen r
      have hw1 : IntKind.i64.wrap ((k : Int) + 1) = (k : Int) + 1 := IntWalk.i64_in _ (by omega)
      obtain ⟨x, hx⟩ : ∃ x, d[r]! = x := ⟨_, rfl⟩
      obtain ⟨y, hy⟩ : ∃ y, d[k]! = y := ⟨_, rfl⟩
      rw [hx] at cr
      rw [hy] at cl
      by_cases h2 : k + 1 < hi
      · have c2 := hrow.cell (k + 1) (by omega)
        obtain ⟨z, hz⟩ : ∃ z, d[k + 1]! = z := ⟨_, rfl⟩
        rw [hz] at c2
        have hg : (k : Int) + 1 < hi := by omega
        by_cases h3 : y < z
        · have hstep := sift_right hi r d (by omega) (by rw [hk, hy, hz]; exact h3)
          rw [hk, hx, hz, hsd] at hstep
          by_cases h4 : x < z
          · rw [if_pos h4] at hstep
            have r1 := hrow.set r z
            have ci2 := r1.cell (k + 1) (by simp; omega)
            have fi2 := hrow.frozen (k + 1)
            have HSW := hide (swapped hrow hgr r (k + 1) hx hz)
            have HST := hide hstep
            have HDS := hide (show (swp d r (k + 1)).size = n by rw [size_swp]; exact hds)
            have HK := hide hk
            clear hrow hsd hgr hds hstep r1 hx hy hz hk
            go_wp2
            go_quiet (fail)
            go_wp2
            go_quiet (fail)
            go_wp2
            go_roundw
            case rel => exact ⟨k + 1, _, by omega, by go_num, unhide HDS, (unhide HSW _).1, (unhide HST).symm, (unhide HSW _).2⟩
            case measure => have := unhide HK; simp [intOf]; omega
          · rw [if_neg h4] at hstep
            subst hstep
            have HR2 := hide hrow
            have HG := hide hgr
            have HZ := hide hds
            have h5 : z ≤ x := by omega
            clear hrow hsd hgr hds hx hy hz hk
            go_wp2
            go_quiet (fail)
            go_wp2
            go_quiet (fail)
            go_wp2
            refine bodyPost_ret (results_none rfl _ _ _) rfl ?_
            exact ⟨rfl, row_drewN (row_drewN (unhide HR2) _) _, unhide HZ, grown_drewN (grown_drewN (unhide HG) _) _⟩
        · have hstep := sift_left hi r d (by omega) (by rw [hk, hy, hz]; omega)
          rw [hk, hx, hy, hsd] at hstep
          by_cases h4 : x < y
          · rw [if_pos h4] at hstep
            have r1 := hrow.set r y
            have ci2 := r1.cell (k) (by simp; omega)
            have fi2 := hrow.frozen (k)
            have HSW := hide (swapped hrow hgr r (k) hx hy)
            have HST := hide hstep
            have HDS := hide (show (swp d r (k)).size = n by rw [size_swp]; exact hds)
            have HK := hide hk
            clear hrow hsd hgr hds hstep r1 hx hy hz hk
            go_wp2
            go_quiet (fail)
            go_wp2
            go_quiet (fail)
            go_wp2
            go_roundw
            case rel => exact ⟨k, _, by omega, by go_num, unhide HDS, (unhide HSW _).1, (unhide HST).symm, (unhide HSW _).2⟩
            case measure => have := unhide HK; simp [intOf]; omega
          · rw [if_neg h4] at hstep
            subst hstep
            have HR2 := hide hrow
            have HG := hide hgr
            have HZ := hide hds
            have h5 : y ≤ x := by omega
            clear hrow hsd hgr hds hx hy hz hk
            go_wp2
            go_quiet (fail)
            go_wp2
            go_quiet (fail)
            go_wp2
            refine bodyPost_ret (results_none rfl _ _ _) rfl ?_
            exact ⟨rfl, row_drewN (row_drewN (unhide HR2) _) _, unhide HZ, grown_drewN (grown_drewN (unhide HG) _) _⟩
      · have hg : decide ((k : Int) + 1 < (hi : Int)) = false := decide_eq_false (by omega)
        have hstep := sift_left hi r d (by omega) (by omega)
        rw [hk, hx, hy, hsd] at hstep
        by_cases h4 : x < y
        · rw [if_pos h4] at hstep
          have r1 := hrow.set r y
          have ci2 := r1.cell (k) (by simp; omega)
          have fi2 := hrow.frozen (k)
          have HSW := hide (swapped hrow hgr r (k) hx hy)
          have HST := hide hstep
          have HDS := hide (show (swp d r (k)).size = n by rw [size_swp]; exact hds)
          have HK := hide hk
          clear hrow hsd hgr hds hstep r1 hx hy hk
          go_wp2
          go_quiet (fail)
          go_wp2
          go_quiet (fail)
          go_wp2
          go_roundw
          case rel => exact ⟨k, _, by omega, by go_num, unhide HDS, (unhide HSW _).1, (unhide HST).symm, (unhide HSW _).2⟩
          case measure => have := unhide HK; simp [intOf]; omega
        · rw [if_neg h4] at hstep
          subst hstep
          have HR2 := hide hrow
          have HG := hide hgr
          have HZ := hide hds
          have h5 : y ≤ x := by omega
          clear hrow hsd hgr hds hx hy hk
          go_wp2
          go_quiet (fail)
          go_wp2
          go_quiet (fail)
          go_wp2
          refine bodyPost_ret (results_none rfl _ _ _) rfl ?_
          exact ⟨rfl, row_drewN (row_drewN (unhide HR2) _) _, unhide HZ, grown_drewN (grown_drewN (unhide HG) _) _⟩
    · have hstep := sift_out hi r d (by omega)
      rw [hsd] at hstep
      subst hstep
      have HR2 := hide hrow
      have HG := hide hgr
      have HZ := hide hds
      clear hrow hsd hgr hds hk
      go_wp2
      refine bodyPost_ret (results_none rfl _ _ _) rfl ?_
      exact ⟨rfl, unhide HR2, unhide HZ, unhide HG⟩

/-! ### heapSort -/
/-- What 'heapSort' makes of d. -/
def hsort (d : Array Int) : Array Int := heapPop ltInt 0 d.size (heapBuild ltInt d.size 0 (d.size / 2) d)
theorem hsort_holds (d : Array Int) : PermIn 0 d.size d (hsort d) ∧ SortedIn ltInt 0 d.size (hsort d) := by
  obtain ⟨B1, B2⟩ := Go.Sort.build swo_ltInt d.size 0 (d.size / 2) d (by omega) (fun i h1 _ k hk hkh => by omega)
  obtain ⟨P1, P2⟩ := Go.Sort.pop swo_ltInt 0 d.size d.size (heapBuild ltInt d.size 0 (d.size / 2) d) (Nat.le_refl _) (by rw [B2.1]; omega) B1 (fun x y hx hxy hy => by omega) (fun i j _ h2 h3 => by omega)
  simp only [Nat.zero_add] at B2 P1 P2
  exact ⟨permIn_trans _ _ _ _ _ B2 P2, P1⟩
/-- Two permutations of one array are sorted to one array. -/
theorem hsort_perm {d0 d : Array Int} (h : PermIn 0 d0.size d0 d) : hsort d0 = hsort d := by
  obtain ⟨p1, s1⟩ := hsort_holds d0
  obtain ⟨p2, s2⟩ := hsort_holds d
  rw [h.1] at p2 s2
  have ne : ∀ x y : Int, ltInt x y = false → ltInt y x = false → x = y := fun x y a b => by simp [ltInt] at a b; omega
  have e1 := Go.Sort.sorted_unique_holds (lt := ltInt) swo_ltInt ne d0 (hsort d0) p1 s1
  have e2 := Go.Sort.sorted_unique_holds (lt := ltInt) swo_ltInt ne d0 (hsort d) (permIn_trans _ _ _ _ _ h p2) s2
  exact Array.ext' (e1.trans e2.symm)
theorem build_succ (hi k : Nat) (d : Array Int) : heapBuild ltInt hi 0 (k + 1) d = heapBuild ltInt hi 0 k (siftDown ltInt hi 0 k d) := rfl
theorem pop_succ (k : Nat) (d : Array Int) : heapPop ltInt 0 (k + 1) d = heapPop ltInt 0 k (siftDown ltInt k 0 0 (swp d 0 k)) := by
  show heapPop ltInt 0 k (siftDown ltInt k 0 0 (swp d 0 (0 + k))) = _
  rw [Nat.zero_add]
theorem swp_self (d : Array Int) : swp d 0 0 = d := by
  apply Array.ext
  · simp [swp]
  · intro i h1 h2
    have : (swp d 0 0)[i]! = d[i]! := by
      by_cases e : i = 0
      · subst e; exact Go.Sort.swp_right d 0 0 h2
      · exact Go.Sort.swp_other d 0 0 i e e
    rw [getElem!_pos (swp d 0 0) i h1, getElem!_pos d i h2] at this
    exact this
theorem pop_one (d : Array Int) : heapPop ltInt 0 (0 + 1) d = d := by
  rw [pop_succ, sift_out _ _ _ (by omega), swp_self]
  rfl

set_option maxHeartbeats 1000000 in
theorem heapSort_any (S n : Nat) (d0 : Array Int) (w : World) (hr : Row w S d0) (hn : d0.size = n) (hn0 : 0 < n) (hn1 : n ≤ 1048576) (c : Nat) :
    Calls Try.prog 17 #[.slice (some ⟨S, 0, none⟩) n c] w fun e w' => e = .returned (.tuple #[]) ∧ Row w' S (hsort d0) ∧ w.grownBy w' (some S) := by
  obtain ⟨D, hD⟩ : ∃ D, hsort d0 = D := ⟨_, rfl⟩
  rw [hD]
  have HD : Hid (heapPop ltInt 0 n (heapBuild ltInt n 0 (n / 2) d0) = D) := by rw [← hD]; unfold hsort; rw [hn]; rfl
  have HR := hide hr
  have HN := hide hn
  clear hD hr hn
  go_enter Try.func17, Try.ntmps17
  go_wp2
  go_loopw [3] (fun st wr => ∃ (k : Nat) (d : Array Int), k ≤ n / 2 ∧ st = .int .i64 ((k : Int) - 1) ∧ d.size = n ∧ Row wr S d ∧ heapPop ltInt 0 n (heapBuild ltInt n 0 k d) = D ∧ w.grownBy wr (some S)) (fun st _ => (intOf st + 1).toNat)
  case atStart => exact ⟨n / 2, d0, Nat.le_refl _, by go_num, unhide HN, unhide HR, HD.out, World.grownBy.refl _ _⟩
  case round =>
    clear HR HN HD
    obtain ⟨k, d, hk, rfl, hds, hrow, hD, hgr⟩ := hrel
    cases k with
    | succ k =>
      have e1 : ((k + 1 : Nat) : Int) - 1 = (k : Int) := by omega
      rw [e1]
      rw [build_succ] at hD
      have HC0 := hide (sift_any S n c k n d wr hrow hds hn1 (Nat.le_refl _) (by omega))
      have HD := hide hD
      have HG := hide hgr
      clear hrow hds hD hgr e1
      go_wp2_with (go_at_call 26; refine (unhide HC0).mono ?_; rintro e w1 ⟨rfl, h1, h2, h3⟩; have H1 := hide h1; have H2 := hide h2; have H3 := hide h3; clear h1 h2 h3)
      go_roundw
      case rel => exact ⟨k, _, by omega, rfl, unhide H2, unhide H1, unhide HD, grownBy_trans (unhide HG) (unhide H3)⟩
      case measure => simp [intOf]
    | zero =>
      have e0 : heapBuild ltInt n 0 0 d = d := rfl
      rw [e0] at hD
      obtain ⟨m, rfl⟩ : ∃ m, n = m + 1 := ⟨n - 1, by omega⟩
      have HD := hide hD
      have HG := hide hgr
      have HR := hide hrow
      have HZ := hide hds
      clear hrow hds hD hgr e0
      go_wp2
      go_loopw [4] (fun en wr => ∃ (e : Nat) (d : Array Int), e ≤ m ∧ en = .int .i64 (e : Int) ∧ d.size = m + 1 ∧ Row wr S d ∧ heapPop ltInt 0 (e + 1) d = D ∧ w.grownBy wr (some S)) (fun en _ => (intOf en).toNat)
      case atStart => exact ⟨m, d, Nat.le_refl _, rfl, unhide HZ, unhide HR, unhide HD, unhide HG⟩
      case round =>
        clear HD HG HR HZ
        obtain ⟨e, d, he, rfl, hds, hrow, hD, hgr⟩ := hrel
        cases e with
        | zero =>
          rw [pop_one] at hD
          subst hD
          have HR := hide hrow
          have HG := hide hgr
          clear hrow hgr hds
          go_wp2
          go_end0
          exact ⟨rfl, unhide HR, unhide HG⟩
        | succ e =>
          rw [pop_succ] at hD
          have c0 := hrow.cell 0 (by omega)
          have ce := hrow.cell (e + 1) (by omega)
          obtain ⟨x, hx⟩ : ∃ x, d[0]! = x := ⟨_, rfl⟩
          obtain ⟨y, hy⟩ : ∃ y, d[e + 1]! = y := ⟨_, rfl⟩
          rw [hx] at c0
          rw [hy] at ce
          have f0 := hrow.frozen 0
          have fe := hrow.frozen (e + 1)
          have r1 := hrow.set 0 y
          have c2 := r1.cell (e + 1) (by simp; omega)
          have r2 := hrow.swap 0 (e + 1)
          rw [hx, hy] at r2
          have HG := hide (grownBy_trans (grownBy_trans hgr (grownBy_set wr S 0 (.int .i64 y))) (grownBy_set _ S (e + 1) (.int .i64 x)))
          have HC : Hid (Calls Try.prog 26 #[.slice (some ⟨S, 0, none⟩) (m + 1) c, .int .i64 0, .int .i64 ((e + 1 : Nat) : Int)] _ _) := sift_any S (m + 1) c 0 (e + 1) (swp d 0 (e + 1)) _ r2 (by rw [size_swp]; exact hds) hn1 (by omega) (by omega)
          have HD := hide hD
          clear hrow hds hD hgr r1 r2 hx hy
          go_wp2_with fail
          refine (unhide HC).mono ?_
          rintro e' w1 ⟨rfl, h1, h2, h3⟩
          have H1 := hide h1
          have H2 := hide h2
          have H3 := hide h3
          clear h1 h2 h3 HC
          go_wp2
          go_roundw
          case rel =>
            refine ⟨_, _, _, _, _, _, _, _, _, _, _, _, _, _, _, _, _, _, _, _, _, _, ?_, rfl⟩
            exact ⟨e, _, by omega, rfl, unhide H2, unhide H1, unhide HD, grownBy_trans (unhide HG) (unhide H3)⟩
          case measure => simp [intOf]
end Go.Proofs.Qxb6603093a.Heap
