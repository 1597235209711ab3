/-
  The contract of '(Decimal).appendTo' (function 30), of 'magnitude' (32) and of the shim (21): walked once, for the three laws over it.
-/
import Derived.Test.Qxb6603093aRows
import Derived.WalkKit
import Derived.ProofKit
import Derived.PlainAid
import Derived.Handy
import Derived.Test.Qxb6603093aDec
namespace Go.Proofs.Qxb6603093a.Dec
open Go.RowKit Go.PlainAid

theorem ret_int {k : IntKind} {a b : Int} (h : a = b) : Ending.returned (.int k a) = .returned (.int k b) := by rw [h]
theorem int_eq {k : IntKind} {a b : Int} (h : a = b) : Value.int k a = .int k b := by rw [h]
theorem mag_least : IntKind.u64.wrap (wrap64 9223372036854775808) = ((-9223372036854775808 : Int).natAbs : Int) := by
  rw [IntKind.wrap_u64]; unfold wrap64; omega

theorem magnitude_any (c : Int) (h1 : -9223372036854775808 ≤ c) (h2 : c ≤ 9223372036854775807) (w : World) :
    Calls Try.prog 32 #[.int .i64 c] w fun e w' => e = .returned (.int .u64 (c.natAbs : Int)) ∧ w' = w := by
  by_cases h : c < 0
  · by_cases h3 : c = -9223372036854775808
    · subst h3
      go_enter Try.func32, Try.ntmps32
      go_wp2
      go_ret
      exact ⟨ret_int mag_least, rfl⟩
    · go_enter Try.func32, Try.ntmps32
      go_wp2
      go_ret
      exact ⟨ret_int (by omega), rfl⟩
  · go_enter Try.func32, Try.ntmps32
    go_wp2
    go_ret
    exact ⟨ret_int (by omega), rfl⟩

/-- The text's own row so far: 21 cells, the last of them (from r on) are l. -/
def Tail (A : Array Value) (r : Nat) (l : List Int) : Prop := A.size = 21 ∧ A.toList.drop r = l.map (Value.int .u8)
theorem Tail.get {A : Array Value} {r : Nat} {l : List Int} (h : Tail A r l) {j : Nat} (hj : j < 21) : ∃ x, A[j]? = some x := ⟨A[j]'(by rw [h.1]; exact hj), by simp [h.1, hj]⟩
theorem Tail.put {A : Array Value} {r : Nat} {l : List Int} (h : Tail A (r + 1) l) (hr : r < 21) (x : Int) : Tail (A.setIfInBounds r (.int .u8 x)) r (x :: l) :=
  ⟨by simp [h.1], drop_set A r _ _ (by rw [h.1]; exact hr) h.2⟩
theorem Tail.cells {A : Array Value} {r : Nat} {l : List Int} (h : Tail A r l) (W : World) (b : Nat) (hb : b = W.heap.size) : ∀ j u, (l.map (Value.int .u8))[j]? = some u → (W.alloc (.cells A 47)).cell? ((⟨b, r, none⟩ : Addr).add j) = some u := by
  intro j u hu
  subst hb
  rw [← h.2, List.getElem?_drop] at hu
  rw [show (⟨W.heap.size, r, none⟩ : Addr).add j = ⟨W.heap.size, r + j, none⟩ from by simp [Addr.add], World.cell?_alloc_at _ _ _ _ rfl]
  simpa using hu

/-- What stands behind the whole part. -/
def frac (mag scale : Nat) : List Int := if scale = 0 then [] else 46 :: digs mag scale
theorem frac_zero (mag : Nat) : frac mag 0 = [] := rfl
theorem frac_pos (mag scale : Nat) (h : 0 < scale) : frac mag scale = 46 :: digs mag scale := by unfold frac; rw [if_neg (by omega)]
theorem frac_len (mag scale : Nat) : (frac mag scale).length = if scale = 0 then 0 else scale + 1 := by unfold frac; split <;> simp [digs_length]

theorem slice_text (b r : Nat) (hr : r < 21) (w : World) : (Instr.sliceAt 47 (.pointer (some ⟨b, 0, none⟩)) (some (.int .i64 (r : Int))) none none).run Try.prog w = .ok (.slice (some ⟨b, r, none⟩) (21 - r) (21 - r)) w := by
  have h47 : Try.prog.underlying 47 = some (.array (Try.prog.arrayLen 47) (Try.prog.elem 47)) := by kernel_rfl
  have h21 : Try.prog.arrayLen 47 = 21 := by kernel_rfl
  have h5 : (sizeOf (Try.prog.elem 47)).run Try.prog w = .ok 1 w := by kernel_rfl
  rw [run_sliceAt_array_l w 47 _ h47 .i64 _ (by omega) (by rw [h21]; omega), h5, h21]
  have : ¬ 21 = r := by omega
  simp [slicedAt, Addr.add, Result.andThen, this]
  omega

theorem grownBy_trans {a b c : World} {row : Option Nat} (h : a.grownBy b row) (k : b.grownBy c row) : a.grownBy c row :=
  ⟨k.os.trans h.os, k.tape.trans h.tape, k.output.trans h.output, Nat.le_trans h.size k.size, fun i hi hne => (k.block i (Nat.lt_of_lt_of_le hi h.size) hne).trans (h.block i hi hne)⟩

theorem Try.info5 : (Try.prog.info? 5).map (fun i => (i.zero, i.size, i.bytes)) = some (some (.int .u8 0), 1, 1) := by kernel_rfl

set_option maxHeartbeats 1000000 in
theorem appendTo_any (coef : Int) (scale J : Nat) (base n : Nat) (xs : List Value) (v : Value) (w : World) (h1 : -9223372036854775808 ≤ coef) (h2 : coef ≤ 9223372036854775807) (hs : scale ≤ 18) (hJ : Len (qt coef.natAbs scale) J) (hJs : J + scale ≤ 19)
    (hown : w.ownsRow base 5 1 v n xs) (hbase : base ≤ w.heap.size) (hn : n ≤ 1099511627776) :
    Calls Try.prog 30 #[.agg #[.int .i64 coef, .int .i64 (scale : Int)], v] w fun e w' => ∃ v', e = .returned v' ∧ w'.ownsRow base 5 1 v' (n + (txt (decide (coef < 0)) coef.natAbs scale J).length) (xs ++ (txt (decide (coef < 0)) coef.natAbs scale J).map (Value.int .u8)) ∧ w.grownBy w' v.ownBlock := by
  have hmag : (coef.natAbs : Int) ≤ 9223372036854775808 := by omega
  obtain ⟨mag, hm⟩ : ∃ mag, coef.natAbs = mag := ⟨_, rfl⟩
  have hmc := fun w => magnitude_any coef h1 h2 w
  rw [hm] at hmc hmag hJ ⊢
  obtain ⟨T, hT0⟩ : ∃ T, txt (decide (coef < 0)) mag scale J = T := ⟨_, rfl⟩
  rw [hT0]
  have HT0 : Hid (txt (decide (coef < 0)) mag scale J = T) := hT0
  have HM : Hid (∀ w, Calls Try.prog 32 #[.int .i64 coef] w fun e w' => e = .returned (.int .u64 (mag : Int)) ∧ w' = w) := hmc
  clear hmc hm hT0
  have HJ : Hid (Len (qt mag scale) J) := hJ
  have HW : Hid (w.ownsRow base 5 1 v n xs) := hown
  clear hJ hown
  have hfl : (frac mag scale).length ≤ scale + 1 := by rw [frac_len]; split <;> omega
  obtain ⟨i0, hi, hz0, hz1, hz2⟩ := info_parts Try.info5
  go_enter Try.func30, Try.ntmps30
  go_wp2_with (go_at_call 32; refine (HM.out _).mono ?_; rintro e w' ⟨rfl, rfl⟩)
  go_loopw [6, 7, 13] (fun i m c wr => ∃ (k r : Nat) (A : Array Value), k + r = 21 ∧ k ≤ scale ∧ i = .int .i64 r ∧ m = .int .u64 (qt mag k : Nat) ∧ c = .int .i64 k ∧ Tail A r (digs mag k) ∧ wr = (w.alloc (Obj.cells #[Value.int IntKind.i64 coef, Value.int IntKind.i64 scale] 46)).alloc (Obj.cells A 47)) (fun _ _ c _ => scale - (intOf c).toNat)
  case atStart => exact ⟨0, 21, _, rfl, Nat.zero_le _, rfl, by rw [qt_zero], rfl, ⟨rfl, rfl⟩, rfl⟩
  case round =>
    obtain ⟨k, r, A, hkr, hk, rfl, rfl, rfl, hA, rfl⟩ := hrel
    have hq := qt_le mag k
    by_cases hlt : k < scale
    · obtain ⟨r, rfl⟩ : ∃ q, r = q + 1 := ⟨r - 1, by omega⟩
      have hr : r < 21 := by omega
      obtain ⟨x, hx⟩ := hA.get hr
      go_wp2
      go_roundw
      case rel => exact ⟨k + 1, r, _, by omega, by omega, rfl, int_eq (by rw [qt_succ]; omega), by go_num, hA.put hr _, rfl⟩
      case measure => simp [intOf]; omega
    · obtain rfl : k = scale := by omega
      have hlast : ∀ j, 1 ≤ j → j < J → 10 ≤ (qt mag (k + (j - 1)) : Int) := fun j a b => by
        have := HJ.out.2.2 j a b
        rw [qt_qt, show k + j = k + (j - 1) + 1 by omega, qt_succ] at this
        omega
      have hend : (qt mag (k + (J - 1)) : Int) < 10 := by
        have h3 := HJ.out.2.1
        have h4 := HJ.out.1
        rw [qt_qt, show k + J = k + (J - 1) + 1 by omega, qt_succ] at h3
        omega
      have hJ1 := HJ.out.1
      by_cases h0 : 0 < k
      · obtain ⟨r, rfl⟩ : ∃ q, r = q + 1 := ⟨r - 1, by omega⟩
        have hr : r < 21 := by omega
        obtain ⟨x, hx⟩ := hA.get hr
        have hT : Tail (A.setIfInBounds r (.int .u8 46)) r (frac mag k) := by rw [frac_pos _ _ h0]; exact hA.put hr _
        have hl : r + (frac mag k).length = 21 := by rw [frac_len, if_neg (by omega)]; omega
        clear hA hlt
        go_wp2
        clear hx hr
        go_loopw [6, 7] (fun i m wr => ∃ (j r : Nat) (A : Array Value), r + j + (frac mag k).length = 21 ∧ j < J ∧ i = .int .i64 r ∧ m = .int .u64 (qt mag (k + j) : Nat) ∧ Tail A r (digs (qt mag k) j ++ frac mag k) ∧ wr = (w.alloc (Obj.cells #[Value.int IntKind.i64 coef, Value.int IntKind.i64 k] 46)).alloc (Obj.cells A 47)) (fun i _ _ => (intOf i).toNat)
        case atStart => exact ⟨0, r, _, by omega, by omega, rfl, rfl, hT, rfl⟩
        case round =>
          clear hT hl
          obtain ⟨j, r, A, hl, hj, rfl, rfl, hT, rfl⟩ := hrel
          have hq := qt_le mag (k + j)
          obtain ⟨r, rfl⟩ : ∃ q, r = q + 1 := ⟨r - 1, by omega⟩
          have hr : r < 21 := by omega
          obtain ⟨x, hx⟩ := hT.get hr
          by_cases hjJ : j + 1 < J
          · have hge : 10 ≤ (qt mag (k + j) : Int) := by have := hlast (j + 1) (by omega) hjJ; simpa using this
            clear hlast hend
            go_wp2
            go_roundw
            case rel => exact ⟨j + 1, r, _, by omega, hjJ, rfl, int_eq (by rw [← Nat.add_assoc, qt_succ]; omega), by rw [show digs (qt mag k) (j + 1) = (48 + ((qt (qt mag k) j % 10 : Nat) : Int)) :: digs (qt mag k) j from rfl, qt_qt]; exact hT.put hr _, rfl⟩
            case measure => simp [intOf]
          · have hlt : (qt mag (k + j) : Int) < 10 := by rw [show j = J - 1 by omega]; exact hend
            clear hlast hend
            have hT2 : Tail (A.setIfInBounds r (.int .u8 (48 + (qt mag (k + j) : Int) % 10))) r (digs (qt mag k) J ++ frac mag k) := by
              rw [show J = j + 1 by omega, show digs (qt mag k) (j + 1) = (48 + ((qt (qt mag k) j % 10 : Nat) : Int)) :: digs (qt mag k) j from rfl, qt_qt]; exact hT.put hr _
            by_cases hneg : coef < 0
            · have hnews : T = 45 :: (digs (qt mag k) J ++ frac mag k) := by rw [← HT0.out]; simp [txt, hneg, frac]
              obtain ⟨r, rfl⟩ : ∃ q, r = q + 1 := ⟨r - 1, by omega⟩
              have hr2 : r < 21 := by omega
              obtain ⟨y, hy⟩ := hT2.get hr2
              have hT3 := hT2.put hr2 45
              have hlen : T.length = 21 - r := by rw [hnews]; simp [digs_length]; omega
              have hsl := slice_text (w.heap.size + 1) r hr2
              rw [← hnews] at hT3
              have HL : Hid (T.length = 21 - r) := hlen
              clear hnews hlen hT hT2
              go_wp2_with (at_builtin; refine wpList_append_own _ rfl (.tmp 52) (.tmp 54) 31 rfl base 5 i0 (.int .u8 0) 1 1 Try.underlying31 hi hz0 hz1 hz2 rfl (by decide) v n xs rfl ((HW.out.alloc _).alloc _) ⟨w.heap.size + 1, r, none⟩ (21 - r) (21 - r) (T.map (Value.int .u8)) rfl (by rw [List.length_map, HL.out]; omega) (hT3.cells _ _ (by simp)) (ints_oneCell _ _) (by unfold maxLen; omega) (by omega) (by simp; omega) ?_; intro v' w1 hown' hgrow _)
              go_ret
              exact ⟨v', rfl, by rw [HL.out]; exact hown', grownBy_trans (grownBy_trans (World.grownBy_alloc _ _ _) (World.grownBy_alloc _ _ _)) hgrow⟩
            · have hnews : T = digs (qt mag k) J ++ frac mag k := by rw [← HT0.out]; simp [txt, hneg, frac]
              have hlen : T.length = 21 - r := by rw [hnews]; simp [digs_length]; omega
              have hsl := slice_text (w.heap.size + 1) r hr
              rw [← hnews] at hT2
              have HL : Hid (T.length = 21 - r) := hlen
              clear hnews hlen hT
              go_wp2_with (at_builtin; refine wpList_append_own _ rfl (.tmp 52) (.tmp 54) 31 rfl base 5 i0 (.int .u8 0) 1 1 Try.underlying31 hi hz0 hz1 hz2 rfl (by decide) v n xs rfl ((HW.out.alloc _).alloc _) ⟨w.heap.size + 1, r, none⟩ (21 - r) (21 - r) (T.map (Value.int .u8)) rfl (by rw [List.length_map, HL.out]; omega) (hT2.cells _ _ (by simp)) (ints_oneCell _ _) (by unfold maxLen; omega) (by omega) (by simp; omega) ?_; intro v' w1 hown' hgrow _)
              go_ret
              exact ⟨v', rfl, by rw [HL.out]; exact hown', grownBy_trans (grownBy_trans (World.grownBy_alloc _ _ _) (World.grownBy_alloc _ _ _)) hgrow⟩
      · have hT : Tail A r (frac mag k) := by rw [show k = 0 by omega] at hA ⊢; exact hA
        have hl : r + (frac mag k).length = 21 := by rw [frac_len, if_pos (by omega)]; omega
        clear hA hlt
        go_wp2
        go_loopw [6, 7] (fun i m wr => ∃ (j r : Nat) (A : Array Value), r + j + (frac mag k).length = 21 ∧ j < J ∧ i = .int .i64 r ∧ m = .int .u64 (qt mag (k + j) : Nat) ∧ Tail A r (digs (qt mag k) j ++ frac mag k) ∧ wr = (w.alloc (Obj.cells #[Value.int IntKind.i64 coef, Value.int IntKind.i64 k] 46)).alloc (Obj.cells A 47)) (fun i _ _ => (intOf i).toNat)
        case atStart => exact ⟨0, r, _, by omega, by omega, rfl, rfl, hT, rfl⟩
        case round =>
          clear hT hl
          obtain ⟨j, r, A, hl, hj, rfl, rfl, hT, rfl⟩ := hrel
          have hq := qt_le mag (k + j)
          obtain ⟨r, rfl⟩ : ∃ q, r = q + 1 := ⟨r - 1, by omega⟩
          have hr : r < 21 := by omega
          obtain ⟨x, hx⟩ := hT.get hr
          by_cases hjJ : j + 1 < J
          · have hge : 10 ≤ (qt mag (k + j) : Int) := by have := hlast (j + 1) (by omega) hjJ; simpa using this
            clear hlast hend
            go_wp2
            go_roundw
            case rel => exact ⟨j + 1, r, _, by omega, hjJ, rfl, int_eq (by rw [← Nat.add_assoc, qt_succ]; omega), by rw [show digs (qt mag k) (j + 1) = (48 + ((qt (qt mag k) j % 10 : Nat) : Int)) :: digs (qt mag k) j from rfl, qt_qt]; exact hT.put hr _, rfl⟩
            case measure => simp [intOf]
          · have hlt : (qt mag (k + j) : Int) < 10 := by rw [show j = J - 1 by omega]; exact hend
            clear hlast hend
            have hT2 : Tail (A.setIfInBounds r (.int .u8 (48 + (qt mag (k + j) : Int) % 10))) r (digs (qt mag k) J ++ frac mag k) := by
              rw [show J = j + 1 by omega, show digs (qt mag k) (j + 1) = (48 + ((qt (qt mag k) j % 10 : Nat) : Int)) :: digs (qt mag k) j from rfl, qt_qt]; exact hT.put hr _
            by_cases hneg : coef < 0
            · have hnews : T = 45 :: (digs (qt mag k) J ++ frac mag k) := by rw [← HT0.out]; simp [txt, hneg, frac]
              obtain ⟨r, rfl⟩ : ∃ q, r = q + 1 := ⟨r - 1, by omega⟩
              have hr2 : r < 21 := by omega
              obtain ⟨y, hy⟩ := hT2.get hr2
              have hT3 := hT2.put hr2 45
              have hlen : T.length = 21 - r := by rw [hnews]; simp [digs_length]; omega
              have hsl := slice_text (w.heap.size + 1) r hr2
              rw [← hnews] at hT3
              have HL : Hid (T.length = 21 - r) := hlen
              clear hnews hlen hT hT2
              go_wp2_with (at_builtin; refine wpList_append_own _ rfl (.tmp 52) (.tmp 54) 31 rfl base 5 i0 (.int .u8 0) 1 1 Try.underlying31 hi hz0 hz1 hz2 rfl (by decide) v n xs rfl ((HW.out.alloc _).alloc _) ⟨w.heap.size + 1, r, none⟩ (21 - r) (21 - r) (T.map (Value.int .u8)) rfl (by rw [List.length_map, HL.out]; omega) (hT3.cells _ _ (by simp)) (ints_oneCell _ _) (by unfold maxLen; omega) (by omega) (by simp; omega) ?_; intro v' w1 hown' hgrow _)
              go_ret
              exact ⟨v', rfl, by rw [HL.out]; exact hown', grownBy_trans (grownBy_trans (World.grownBy_alloc _ _ _) (World.grownBy_alloc _ _ _)) hgrow⟩
            · have hnews : T = digs (qt mag k) J ++ frac mag k := by rw [← HT0.out]; simp [txt, hneg, frac]
              have hlen : T.length = 21 - r := by rw [hnews]; simp [digs_length]; omega
              have hsl := slice_text (w.heap.size + 1) r hr
              rw [← hnews] at hT2
              have HL : Hid (T.length = 21 - r) := hlen
              clear hnews hlen hT
              go_wp2_with (at_builtin; refine wpList_append_own _ rfl (.tmp 52) (.tmp 54) 31 rfl base 5 i0 (.int .u8 0) 1 1 Try.underlying31 hi hz0 hz1 hz2 rfl (by decide) v n xs rfl ((HW.out.alloc _).alloc _) ⟨w.heap.size + 1, r, none⟩ (21 - r) (21 - r) (T.map (Value.int .u8)) rfl (by rw [List.length_map, HL.out]; omega) (hT2.cells _ _ (by simp)) (ints_oneCell _ _) (by unfold maxLen; omega) (by omega) (by simp; omega) ?_; intro v' w1 hown' hgrow _)
              go_ret
              exact ⟨v', rfl, by rw [HL.out]; exact hown', grownBy_trans (grownBy_trans (World.grownBy_alloc _ _ _) (World.grownBy_alloc _ _ _)) hgrow⟩

/-- The shim 'ZZDecimalAppendTo'. -/
theorem shim_any (coef : Int) (scale J : Nat) (base n : Nat) (xs : List Value) (v : Value) (w : World) (h1 : -9223372036854775808 ≤ coef) (h2 : coef ≤ 9223372036854775807) (hs : scale ≤ 18) (hJ : Len (qt coef.natAbs scale) J) (hJs : J + scale ≤ 19)
    (hown : w.ownsRow base 5 1 v n xs) (hbase : base ≤ w.heap.size) (hn : n ≤ 1099511627776) :
    Calls Try.prog 21 #[.int .i64 coef, .int .i64 (scale : Int), v] w fun e w' => ∃ v', e = .returned v' ∧ w'.ownsRow base 5 1 v' (n + (txt (decide (coef < 0)) coef.natAbs scale J).length) (xs ++ (txt (decide (coef < 0)) coef.natAbs scale J).map (Value.int .u8)) ∧ w.grownBy w' v.ownBlock := by
  have HA : Hid (∀ w, w.ownsRow base 5 1 v n xs → base ≤ w.heap.size → Calls Try.prog 30 #[.agg #[.int .i64 coef, .int .i64 (scale : Int)], v] w fun e w' => ∃ v', e = .returned v' ∧ w'.ownsRow base 5 1 v' (n + (txt (decide (coef < 0)) coef.natAbs scale J).length) (xs ++ (txt (decide (coef < 0)) coef.natAbs scale J).map (Value.int .u8)) ∧ w.grownBy w' v.ownBlock) :=
    fun w a b => appendTo_any coef scale J base n xs v w h1 h2 hs hJ hJs a b hn
  generalize txt (decide (coef < 0)) coef.natAbs scale J = T at *
  have HW : Hid (w.ownsRow base 5 1 v n xs) := hown
  clear hown hJ
  go_enter Try.func21, Try.ntmps21
  go_wp2_with (go_at_call 30; refine (HA.out _ HW.out hbase).mono ?_; rintro e w' ⟨v', rfl, ho, hg⟩)
  go_ret
  exact ⟨v', rfl, by assumption, by assumption⟩

/-- How long the whole part can be. -/
theorem len_of (coef : Int) (scale : Nat) (h1 : -9223372036854775808 ≤ coef) (h2 : coef ≤ 9223372036854775807) (hs : scale ≤ 18) : ∃ J, Len (qt coef.natAbs scale) J ∧ J + scale ≤ 19 := by
  have hz : qt (qt coef.natAbs scale) (19 - scale) = 0 := by
    rw [qt_qt, show scale + (19 - scale) = 19 by omega]
    unfold qt
    exact Nat.div_eq_of_lt (by omega)
  obtain ⟨J, h, hle⟩ := len_ex _ (19 - scale) (by omega) hz
  exact ⟨J, h, by omega⟩
end Go.Proofs.Qxb6603093a.Dec
