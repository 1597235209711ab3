/-
  Rows of int64s that the call itself made, told by a plain array; the contract of 'cloneInt64s' (function 14).
-/
import Derived.Test.Qxb6603093aRows
import Derived.WalkKit
import Derived.ProofKit
import Derived.PlainAid
import Derived.Handy
import Derived.BigQuiet
import Derived.Deep.QuietTactic
import Derived.Sort.Row
import Derived.Lib.SliceRun
namespace Go.Proofs.Qxb6603093a.Ints
open Go.RowKit Go.PlainAid
open Go.Sort (swp)

theorem hide {p : Prop} (h : p) : Hid p := h
theorem unhide {p : Prop} (h : Hid p) : p := h
theorem Try.info2 : (Try.prog.info? 2).map (fun i => (i.zero, i.size, i.bytes)) = some (some (.int .i64 0), 1, 8) := by kernel_rfl

theorem clone_nil (w : World) : Calls Try.prog 14 #[.slice none 0 0] w fun e w' => e = .returned (.slice none 0 0) ∧ w' = w := by
  have q := fun (w : World) (a : Option Addr) (n c n' c' : Nat) => Lib.run_eql_slice_nil (P := Try.prog) w 26 2 a n c n' c' Try.underlying26
  go_enter Try.func14, Try.ntmps14
  go_wp2
  go_ret
  exact ⟨rfl, rfl⟩

/-- The row so far: the first k bytes are copied. -/
def half (l : List Int) (k n : Nat) : List Int := l.take k ++ List.replicate (n - k) 0
theorem half_zero (l : List Int) (n : Nat) : half l 0 n = List.replicate n 0 := by simp [half]
theorem half_all (l : List Int) (n : Nat) (h : l.length = n) : half l n n = l := by simp [half, ← h]
theorem half_len (l : List Int) (k n : Nat) (h : l.length = n) (hk : k ≤ n) : (half l k n).length = n := by simp [half, h]; omega
theorem half_set (l : List Int) (k n : Nat) (x : Int) (h : l.length = n) (hk : k < n) (hx : l.getD k 0 = x) : (half l k n).set k x = half l (k + 1) n := by
  unfold half
  have hl : (l.take k).length = k := by simp; omega
  rw [List.set_append_right _ _ (by omega), hl, Nat.sub_self, show n - k = (n - (k + 1)) + 1 by omega, List.replicate_succ, List.set_cons_zero, List.take_succ_eq_append_getElem (show k < l.length by omega), ← hx]
  simp [h, hk, -List.take_append_getElem]

theorem addr_form (x : Addr) {w : World} {n : Nat} {f : Nat → Value} (hcell : ∀ j, j < n → w.cell? (x.add j) = some (f j)) (h0 : 0 < n) : ∃ b off, x = ⟨b, off, none⟩ ∧ b < w.heap.size ∧ ∀ j, j < n → w.cell? ⟨b, off + j, none⟩ = some (f j) := by
  obtain ⟨b, off, spot⟩ := x
  have hspot : spot = none := by simpa [Addr.add] using World.cell?_spot (hcell 0 h0)
  subst hspot
  have ha : ∀ j, (⟨b, off, none⟩ : Addr).add j = ⟨b, off + j, none⟩ := fun j => by simp [Addr.add]
  refine ⟨b, off, rfl, ?_, fun j hj => ?_⟩
  · have := block_lt_of_cell (hcell 0 h0)
    rw [ha] at this
    exact this
  · rw [← ha]; exact hcell j hj
theorem grown_own {w wr w1 : World} (h : w.grownBy wr none) (k : wr.grownBy w1 (some w.heap.size)) : w.grownBy w1 none :=
  ⟨k.os.trans h.os, k.tape.trans h.tape, k.output.trans h.output, Nat.le_trans h.size k.size, fun i hi hne => (k.block i (Nat.lt_of_lt_of_le hi h.size) (fun e => by have := Option.some.inj e; omega)).trans (h.block i hi hne)⟩

theorem clone_some (x : Addr) (n c : Nat) (l : List Int) (w : World) (hl : l.length = n) (hn : n ≤ 1048576) (hcell : ∀ j, j < n → w.cell? (x.add j) = some (.int .i64 (l.getD j 0))) :
    Calls Try.prog 14 #[.slice (some x) n c] w fun e w' => e = .returned (.slice (some ⟨w.heap.size, 0, none⟩) n n) ∧ w'.ownsRow w.heap.size 2 1 (.slice (some ⟨w.heap.size, 0, none⟩) n n) n (l.map (Value.int .i64)) ∧ w.grownBy w' none := by
  have q := fun (w : World) (a : Option Addr) (n c n' c' : Nat) => Lib.run_eql_slice_nil (P := Try.prog) w 26 2 a n c n' c' Try.underlying26
  obtain ⟨i0, hi, hz0, hz1, hz2⟩ := info_parts Try.info2
  have HC := hide hcell
  have HL := hide hl
  clear hcell hl
  go_enter Try.func14, Try.ntmps14
  go_wp2_with (at_make; refine wpList_make_full _ rfl _ _ 26 rfl w.heap.size 2 i0 (.int .i64 0) 1 Try.underlying26 hi hz0 hz1 _ _ _ _ n rfl rfl rfl rfl (by rw [hz2]; omega) (by unfold maxLen; omega) (Nat.le_refl _) ?_; intro w3 hown3 hgrow3)
  have HN3 := hide hown3
  have HG3 := hide hgrow3
  clear hown3 hgrow3
  go_loopw [4] (fun i wr => ∃ k : Nat, k ≤ n ∧ i = .int .i64 k ∧ wr.ownsRow w.heap.size 2 1 (.slice (some ⟨w.heap.size, 0, none⟩) n n) n ((half l k n).map (Value.int .i64)) ∧ w.grownBy wr none) (fun i _ => n - (intOf i).toNat)
  case atStart => exact ⟨0, Nat.zero_le _, rfl, by have := unhide HN3; rw [show (Value.int .i64 0).cells = #[Value.int .i64 0] from rfl, toList_madeCells_one, Nat.mul_one] at this; rw [half_zero, List.map_replicate]; exact this, unhide HG3⟩
  case round =>
    clear HN3 HG3
    obtain ⟨k, hk, rfl, hown, hgr⟩ := hrel
    by_cases hlt : k < n
    · obtain ⟨y, hy⟩ : ∃ y, l.getD k 0 = y := ⟨_, rfl⟩
      obtain ⟨b, off, rfl, hb, hcc⟩ := addr_form x (unhide HC) (by omega)
      have hcx : wr.cell? ⟨b, off + k, none⟩ = some (.int .i64 y) := by rw [← hy]; exact hgr.cell (hcc k hlt) (by simp)
      obtain ⟨z, hcs⟩ : ∃ z, wr.cell? ⟨w.heap.size, k, none⟩ = some z := by
        have hh := hown.1
        rw [hown.cellAt k (by omega)]
        exact ⟨_, List.getElem?_eq_getElem (by omega)⟩
      have hfz := hown.frozenAt k
      have HS := hide (hown.stored k (.int .i64 y))
      have HG := hide hgr
      have HY := hide hy
      clear hown hgr hy hcc HC
      go_wp2
      go_roundw
      case rel => exact ⟨k + 1, by omega, by go_num, by rw [← half_set l k n y (unhide HL) hlt (unhide HY), List.map_set]; exact (unhide HS).1, grown_own (unhide HG) (unhide HS).2⟩
      case measure => simp [intOf]; omega
    · obtain rfl : k = n := by omega
      rw [half_all l k (unhide HL)] at hown
      have HW := hide hown
      have HG := hide hgr
      clear hown hgr
      go_wp2
      go_ret
      exact ⟨rfl, unhide HW, unhide HG⟩
/-! ### A row that the call itself made -/
/-- Block S holds just the numbers d. -/
def Row (w : World) (S : Nat) (d : Array Int) : Prop := w.heap[S]? = some (.cells (d.map (Value.int .i64)) 2 (0, 0))
theorem Row.cell {w : World} {S : Nat} {d : Array Int} (h : Row w S d) (j : Nat) (hj : j < d.size) : w.cell? ⟨S, j, none⟩ = some (.int .i64 d[j]!) := by
  rw [cell_of_row w S j _ 2 (0, 0) h]
  simp [hj]
theorem Row.frozen {w : World} {S : Nat} {d : Array Int} (h : Row w S d) (j : Nat) : w.frozen? ⟨S, j, none⟩ = false := frozen_of_row w S j _ 2 h
theorem Row.lt {w : World} {S : Nat} {d : Array Int} (h : Row w S d) : S < w.heap.size := by
  rcases Nat.lt_or_ge S w.heap.size with k | k
  · exact k
  · unfold Row at h; rw [Array.getElem?_eq_none k] at h; cases h
theorem Row.set {w : World} {S : Nat} {d : Array Int} (h : Row w S d) (j : Nat) (x : Int) : Row (w.setCell ⟨S, j, none⟩ (.int .i64 x)) S (d.setIfInBounds j x) := by
  unfold Row
  rw [heap_setCell_same w S j _ 2 _ h]
  congr 2
  apply Array.ext
  · simp
  · intro i h1 h2
    simp
theorem grownBy_set (w : World) (S j : Nat) (v : Value) : w.grownBy (w.setCell ⟨S, j, none⟩ v) (some S) :=
  ⟨rfl, rfl, rfl, by simp, fun k _ hk => heap_setCell_other w ⟨S, j, none⟩ k v (fun e => hk (by simp [e]))⟩
theorem grownBy_trans {a b c : World} {row : Option Nat} (h : a.grownBy b row) (k : b.grownBy c row) : a.grownBy c row :=
  ⟨k.os.trans h.os, k.tape.trans h.tape, k.output.trans h.output, Nat.le_trans h.size k.size, fun i hi hne => (k.block i (Nat.lt_of_lt_of_le hi h.size) hne).trans (h.block i hi hne)⟩
theorem Row.kept {w w' : World} {S : Nat} {d : Array Int} (h : Row w S d) {row : Option Nat} (hg : w.grownBy w' row) (hne : some S ≠ row) : Row w' S d := by
  unfold Row
  rw [hg.block S h.lt hne]
  exact h
theorem Row.swap {w : World} {S : Nat} {d : Array Int} (h : Row w S d) (i j : Nat) : Row ((w.setCell ⟨S, i, none⟩ (.int .i64 d[j]!)).setCell ⟨S, j, none⟩ (.int .i64 d[i]!)) S (swp d i j) := (h.set i _).set j _
theorem row_of_own {w : World} {base S n : Nat} {l : List Int} (h : w.ownsRow base 2 1 (.slice (some ⟨S, 0, none⟩) n n) n (l.map (Value.int .i64))) : Row w S l.toArray := by
  rcases h.2 with ⟨h', _⟩ | ⟨g', cap', cur, h', _, hg, _, _, hs, htake⟩
  · simp at h'
  · simp only [Value.slice.injEq, Option.some.injEq, Addr.mk.injEq, and_true, true_and] at h'
    obtain ⟨rfl, rfl⟩ := h'
    unfold Row
    rw [hg]
    congr 2
    apply Array.ext'
    rw [List.take_of_length_le (by simp [hs])] at htake
    rw [htake]
    simp
/-- Two cloned slices of int64s: what 'cloneInt64s' makes of a row that is not empty. -/
theorem clone_row (S n c : Nat) (d : Array Int) (w : World) (hd : d.size = n) (hn : n ≤ 1048576) (hr : Row w S d) :
    Calls Try.prog 14 #[.slice (some ⟨S, 0, none⟩) n c] w fun e w' => e = .returned (.slice (some ⟨w.heap.size, 0, none⟩) n n) ∧ Row w' w.heap.size d ∧ w.grownBy w' none := by
  refine (clone_some ⟨S, 0, none⟩ n c d.toList w (by simpa using hd) hn (fun j hj => ?_)).mono ?_
  · rw [show (⟨S, 0, none⟩ : Addr).add j = ⟨S, j, none⟩ from by simp [Addr.add]; omega, hr.cell j (by omega)]
    simp [hd, hj]
  · rintro e w' ⟨rfl, ho, hg⟩
    refine ⟨rfl, ?_, hg⟩
    have := row_of_own ho
    simpa using this
end Go.Proofs.Qxb6603093a.Ints
