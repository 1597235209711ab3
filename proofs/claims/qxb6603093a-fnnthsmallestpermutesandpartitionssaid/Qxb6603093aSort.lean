/-
  What slices.Sort does to a part of a row of int64s, out of the shelf's contract.
-/
import Derived.Test.Qxb6603093aShelf
import Derived.Test.Qxb6603093aInts
import Derived.Test.Qxb6603093aNth
import Derived.Sort.Grow
namespace Go.Proofs.Qxb6603093a.Nth
open Go.RowKit Go.PlainAid Ints
open Go.Sort (swp PermIn SortedIn)

/-- What slices.Sort does to a part of such a row. -/
def SortSaid : Prop := ∀ (S lo m c : Nat) (d : Array Int) (w : World), Row w S d → lo + m ≤ d.size → d.size ≤ 1048576 →
  Calls Try.prog 31 #[.slice (some ⟨S, lo, none⟩) m c] w fun e w' => e = .returned (.tuple #[]) ∧ ∃ d', Row w' S d' ∧ PermIn lo (lo + m) d d' ∧ (∀ i j, lo ≤ i → i < j → j < lo + m → d'[i]! ≤ d'[j]!) ∧ w.grownBy w' (some S)

/-- d with the part from lo on replaced by s. -/
def lay (d : Array Int) (lo : Nat) (s : Array Int) : Array Int := d.mapIdx fun k x => if lo ≤ k ∧ k < lo + s.size then s[k - lo]! else x
theorem lay_size (d : Array Int) (lo : Nat) (s : Array Int) : (lay d lo s).size = d.size := by simp [lay]
theorem lay_in (d : Array Int) (lo : Nat) (s : Array Int) (h : lo + s.size ≤ d.size) (j : Nat) (hj : j < s.size) : (lay d lo s)[lo + j]! = s[j]! := by
  have h1 : lo + j < d.size := by omega
  have h2 : lo + j < (lay d lo s).size := by rw [lay_size]; exact h1
  rw [getElem!_pos (lay d lo s) (lo + j) h2]
  simp [lay, hj]
theorem lay_out (d : Array Int) (lo : Nat) (s : Array Int) (j : Nat) (hj : j < lo ∨ lo + s.size ≤ j) : (lay d lo s)[j]! = d[j]! := by
  rcases Nat.lt_or_ge j d.size with h | h
  · have h2 : j < (lay d lo s).size := by rw [lay_size]; exact h
    rw [getElem!_pos (lay d lo s) j h2, getElem!_pos d j h]
    simp [lay]
    omega
  · rw [getElem!_neg _ _ (by rw [lay_size]; omega), getElem!_neg _ _ (by omega)]
theorem putCells_lay (d : Array Int) (lo : Nat) (s : Array Int) : Go.Sort.putCells (Value.int .i64) lo s (d.map (Value.int .i64)) = (lay d lo s).map (Value.int .i64) := by
  apply Array.ext
  · simp [Go.Sort.putCells, lay]
  · intro i h1 h2
    simp only [Go.Sort.putCells, lay, Array.getElem_mapIdx, Array.getElem_map]
    split <;> rfl

theorem sort_any : SortSaid := by
  intro S lo m c d w hr hlm hn
  obtain ⟨zs, hzs⟩ : ∃ zs, (d.extract lo (lo + m)).toList = zs := ⟨_, rfl⟩
  have hzl : zs.length = m := by rw [← hzs]; simp; omega
  have hget : ∀ j, j < m → zs.toArray[j]! = d[lo + j]! := fun j hj => by
    rw [← hzs, getElem!_pos _ _ (by simp; omega), getElem!_pos d _ (by omega)]
    simp
  have hH : Go.Sort.Holds (Value.int .i64) w S lo zs.toArray := fun j hj => by
    have hj' : j < m := by simpa [hzl] using hj
    refine ⟨?_, hr.frozen _⟩
    rw [hget j hj']
    exact hr.cell (lo + j) (by omega)
  have hcon := AnyG.slices_Sort_int Try.sort31 S lo c zs w hH hr.lt (by omega)
  rw [hzl] at hcon
  have hcon' : Calls Try.prog 31 #[.slice (some ⟨S, lo, none⟩) m c] w fun e w' => e = .returned (.tuple #[]) ∧ ∃ n os, w' = Go.Sort.grow (Go.Sort.putRow (Value.int .i64) (Go.Sort.ahead w n) S lo (zs.mergeSort fun x y => decide (x ≤ y)).toArray) os := hcon
  refine hcon'.mono ?_
  rintro e w' ⟨rfl, n, os, rfl⟩
  refine ⟨rfl, ?_⟩
  obtain ⟨s, hs⟩ : ∃ s, (zs.mergeSort fun x y => decide (x ≤ y)) = s := ⟨_, rfl⟩
  have hperm : s.Perm zs := by rw [← hs]; exact List.mergeSort_perm _ _
  have hsorted : s.Pairwise (fun x y => x ≤ y) := by
    rw [← hs]
    have := List.pairwise_mergeSort (le := fun x y : Int => decide (x ≤ y)) (by intro a b c h1 h2; simp at *; omega) (by intro a b; simp; omega) zs
    simpa using this
  have hsl : s.length = m := by rw [hperm.length_eq]; exact hzl
  rw [hs]
  have hsz : s.toArray.size = m := by simpa using hsl
  refine ⟨lay d lo s.toArray, ?_, ⟨lay_size _ _ _, fun i hi => lay_out _ _ _ _ (by rw [hsz]; exact hi), ?_⟩, fun i j a b c => ?_, ?_⟩
  · unfold Row
    rw [Go.Sort.heap_grow_old _ _ (by simp; exact hr.lt)]
    show ((w.heap.modify S (Go.Sort.onCells (Go.Sort.putCells (Value.int .i64) lo s.toArray))))[S]? = _
    rw [Array.getElem?_modify, if_pos rfl, show w.heap[S]? = some (.cells (d.map (Value.int .i64)) 2 (0, 0)) from hr]
    show some (Obj.cells (Go.Sort.putCells (Value.int .i64) lo s.toArray (d.map (Value.int .i64))) 2 (0, 0)) = _
    rw [putCells_lay]
  · have : ((lay d lo s.toArray).extract lo (lo + m)).toList = s := by
      apply List.ext_getElem
      · simp [lay_size, hsl]; omega
      · intro i h1 h2
        have h3 : i < m := by rw [← hsl]; exact h2
        have := lay_in d lo s.toArray (by omega) i (by omega)
        rw [getElem!_pos _ _ (by rw [lay_size]; omega), getElem!_pos _ _ (by omega)] at this
        simpa using this
    rw [this, hzs]
    exact hperm
  · obtain ⟨i', rfl⟩ : ∃ i', i = lo + i' := ⟨i - lo, by omega⟩
    obtain ⟨j', rfl⟩ : ∃ j', j = lo + j' := ⟨j - lo, by omega⟩
    rw [lay_in _ _ _ (by omega) _ (by omega), lay_in _ _ _ (by omega) _ (by omega), getElem!_pos _ _ (by omega), getElem!_pos _ _ (by omega)]
    simp only [List.getElem_toArray]
    exact List.pairwise_iff_getElem.1 hsorted i' j' (by omega) (by omega) (by omega)
  · refine ⟨rfl, rfl, rfl, by simp, fun k hk hne => ?_⟩
    rw [Go.Sort.heap_grow_old _ _ (by simpa using hk)]
    show ((w.heap.modify S (Go.Sort.onCells (Go.Sort.putCells (Value.int .i64) lo s.toArray))))[k]? = _
    rw [Array.getElem?_modify, if_neg (fun e => hne (by rw [e]))]
end Go.Proofs.Qxb6603093a.Nth
