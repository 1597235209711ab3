/-
  The walk of 'FnDecimalAppendToTrailingZero' (function 8), and its plain law.
-/
import Derived.Test.Qxb6603093aBytes
import Derived.Test.Qxb6603093aAppendTo
import Derived.Maps.AppendAt
namespace Go.Proofs.Qxb6603093a.fnDecimalAppendToTrailingZero
open Go.RowKit Go.PlainAid Dec Byt

theorem qt_ten (m k : Nat) : qt (m * 10) (k + 1) = qt m k := by
  unfold qt
  rw [Nat.pow_succ, Nat.mul_div_mul_right _ _ (by omega)]
theorem digs_ten (m k : Nat) : digs (m * 10) (k + 1) = digs m k ++ [48] := by
  induction k with
  | zero => simp [digs, qt_zero]
  | succ n ih =>
    show (48 + ((qt (m * 10) (n + 1) % 10 : Nat) : Int)) :: digs (m * 10) (n + 1) = _
    rw [qt_ten, ih]
    rfl
/-- ████ THE PLAIN LAW ████ -/
theorem txt_ten (neg : Bool) (mag scale J : Nat) : txt neg (mag * 10) (scale + 1) J = txt neg mag scale J ++ ((if scale = 0 then [46] else []) ++ [48]) := by
  unfold txt
  rw [qt_ten, if_neg (show ¬ scale + 1 = 0 by omega), digs_ten]
  by_cases h : scale = 0
  · subst h; simp [digs]
  · simp [h]

theorem txt_pos {neg : Bool} {mag scale J : Nat} (h : Len (qt mag scale) J) : 0 < (txt neg mag scale J).length := by
  have := h.1
  simp [txt, digs_length]
  omega
theorem txt_le (neg : Bool) (mag scale J : Nat) : (txt neg mag scale J).length ≤ J + scale + 2 := by
  unfold txt
  cases neg <;> by_cases h : scale = 0 <;> simp [digs_length, h] <;> omega

/-- 'sameBytes' at the row that was printed and the row that was built. -/
theorem fin {w2 w4 : World} {b g2 c2 S2 n cap : Nat} {U : List Int} (ho : Owns w2 b (.slice (some ⟨g2, 0, none⟩) U.length c2) U) (hb : Below S2 w2 w4) (hg : g2 < S2) (hl : U.length = n) (h0 : 0 < n) (hn : n ≤ 100)
    (hown : w4.ownsRow S2 5 1 (.slice (some ⟨S2, 0, none⟩) n cap) n (U.map (Value.int .u8))) :
    Calls Try.prog 22 #[.slice (some ⟨g2, 0, none⟩) n c2, .slice (some ⟨S2, 0, none⟩) n cap] w4 fun e w' => e = .returned (.bool true) ∧ ∃ q, w' = w4.drewN q := by
  subst hl
  obtain ⟨_, _, e, _, _, _, _, hc⟩ := ho.shape h0
  cases e
  obtain ⟨_, _, e, _, _, _, _, hd⟩ := Owns.shape (l := U) hown h0
  cases e
  exact same_any U U.length g2 c2 S2 cap w4 (by omega) (fun j hj => by rw [hb.cell (by exact hg)]; exact hc j hj) hd
theorem below_drewN {B : Nat} {a w : World} (h : Below B a w) (q : Nat) : Below B a (w.drewN q) := by
  induction q with
  | zero => exact h
  | succ n ih => exact ih.drew

theorem take_snoc {T : List Int} {k : Nat} {x : Int} (h : k < T.length) (hx : T.getD k 0 = x) : (T.take k).map (Value.int .u8) ++ [.int .u8 x] = (T.take (k + 1)).map (Value.int .u8) := by
  rw [List.take_succ_eq_append_getElem h, List.map_append, ← hx]
  simp [h]

set_option maxHeartbeats 1000000 in
theorem main_walk (coef : Int) (scale : Nat) (hs : scale ≤ 17) (h1 : -922337203685477580 ≤ coef) (h2 : coef ≤ 922337203685477580) (w : World) :
    Calls Try.prog 8 #[.int .i64 coef, .int .i64 (scale : Int)] w fun e w' => e = .returned (.bool true) ∧ Below w.heap.size w w' := by
  obtain ⟨J, hJ, hJs⟩ : ∃ J, Len (qt coef.natAbs scale) J ∧ J + (scale + 1) ≤ 19 := by
    obtain ⟨J, a, b⟩ := len_of (coef * 10) (scale + 1) (by omega) (by omega) (by omega)
    rw [show (coef * 10).natAbs = coef.natAbs * 10 by omega, qt_ten] at a
    exact ⟨J, a, b⟩
  obtain ⟨T, hT⟩ : ∃ T, txt (decide (coef < 0)) coef.natAbs scale J = T := ⟨_, rfl⟩
  have hT2 := txt_ten (decide (coef < 0)) coef.natAbs scale J
  have hTp : 0 < T.length := by rw [← hT]; exact txt_pos hJ
  have hTl : T.length ≤ 21 := by rw [← hT]; have := txt_le (decide (coef < 0)) coef.natAbs scale J; omega
  rw [hT] at hT2
  have A1 : Hid (∀ (w : World), Calls Try.prog 21 #[.int .i64 coef, .int .i64 (scale : Int), .slice none 0 0] w fun e w' => ∃ v', e = .returned v' ∧ Owns w' w.heap.size v' T ∧ w.grownBy w' none) := fun w => by
    have := shim_any coef scale J w.heap.size 0 [] (.slice none 0 0) w (by omega) (by omega) (by omega) hJ (by omega) (World.ownsRow_nil _ _ _ _) (Nat.le_refl _) (by omega)
    rw [hT] at this
    simpa [Owns, Value.ownBlock] using this
  obtain ⟨U, hU⟩ : ∃ U, T ++ ((if scale = 0 then [46] else []) ++ [48]) = U := ⟨_, rfl⟩
  rw [hU] at hT2
  have hUp : 0 < U.length := by rw [← hU]; simp only [List.length_append, List.length_cons, List.length_nil]; omega
  have hUl : U.length ≤ 24 := by rw [← hU]; split <;> simp only [List.length_append, List.length_cons, List.length_nil] <;> omega
  have HU : Hid (T ++ ((if scale = 0 then [46] else []) ++ [48]) = U) := hU
  have A2 : Hid (∀ (w : World), Calls Try.prog 21 #[.int .i64 (coef * 10), .int .i64 ((scale : Int) + 1), .slice none 0 0] w fun e w' => ∃ v', e = .returned v' ∧ Owns w' w.heap.size v' U ∧ w.grownBy w' none) := fun w => by
    have := shim_any (coef * 10) (scale + 1) J w.heap.size 0 [] (.slice none 0 0) w (by omega) (by omega) (by omega) (by rw [show (coef * 10).natAbs = coef.natAbs * 10 by omega, qt_ten]; exact hJ) (by omega) (World.ownsRow_nil _ _ _ _) (Nat.le_refl _) (by omega)
    rw [show (coef * 10).natAbs = coef.natAbs * 10 by omega, show decide (coef * 10 < 0) = decide (coef < 0) from by rw [decide_eq_decide]; omega, hT2] at this
    simpa [Owns, Value.ownBlock] using this
  clear hT2 hT hJ hU
  obtain ⟨i0, hi, hz0, hz1, hz2⟩ := info_parts Dec.Try.info5
  go_enter Try.func8, Try.ntmps8
  go_wp2_with fail
  refine (A1.out _).mono ?_
  rintro e w1 ⟨v1, rfl, ho1, hg1⟩
  obtain ⟨g1, c1, rfl, hgb1, hgl1, hc1, hm1, hcell1⟩ := ho1.shape hTp
  have HO1 : Hid (Owns w1 w.heap.size (.slice (some ⟨g1, 0, none⟩) T.length c1) T) := ho1
  have HG1 : Hid (w.grownBy w1 none) := hg1
  clear ho1 hg1 hcell1
  go_wp2_with fail
  refine (A2.out _).mono ?_
  rintro e w2 ⟨v2, rfl, ho2, hg2⟩
  obtain ⟨g2, c2, rfl, hgb2, hgl2, hc2, hm2, hcell2⟩ := ho2.shape hUp
  have HO2 : Hid (Owns w2 w1.heap.size (.slice (some ⟨g2, 0, none⟩) U.length c2) U) := ho2
  have HO1' : Hid (Owns w2 w.heap.size (.slice (some ⟨g1, 0, none⟩) T.length c1) T) := HO1.out.kept hg2 (by simp [Value.ownBlock])
  have hw2 := hg2.size
  have HB2 : Hid (Below w.heap.size w w2) := ((Below.refl _ _).grown HG1.out (Nat.le_refl _) (by intro k h; cases h)).grown hg2 HG1.out.size (by intro k h; cases h)
  clear ho2 hg2 hcell2 HO1 A1 A2
  go_wp2_with (at_make; refine wpList_make_own _ rfl _ _ 31 rfl w2.heap.size 5 i0 (.int .u8 0) 1 Try.underlying31 hi hz0 hz1 _ _ _ (T.length + 2) rfl rfl (by omega) (by rw [hz2]; omega) (by unfold maxLen; omega) (Nat.le_refl _) ?_; intro w3 hown3 hgrow3)
  have HN3 : Hid (w3.ownsRow w2.heap.size 5 1 (.slice (some ⟨w2.heap.size, 0, none⟩) 0 (T.length + 2)) 0 []) := hown3
  have HB3 : Hid (Below w2.heap.size w2 w3) := (Below.refl _ _).grown hgrow3 (Nat.le_refl _) (by intro k h; cases h)
  clear hown3 hgrow3
  obtain ⟨S2, hS2⟩ : ∃ n, w2.heap.size = n := ⟨_, rfl⟩
  rw [hS2] at hw2 hgl2 HN3 HB3 ⊢
  have hS3 : S2 ≤ w2.heap.size := by omega
  clear hS2
  go_loopw [7, 8] (fun v c wr => ∃ k : Nat, k ≤ T.length ∧ c = .int .i64 k ∧ v = .slice (some ⟨S2, 0, none⟩) k (T.length + 2) ∧ wr.ownsRow S2 5 1 (.slice (some ⟨S2, 0, none⟩) k (T.length + 2)) k ((T.take k).map (Value.int .u8)) ∧ Below S2 w2 wr) (fun _ c _ => T.length - (intOf c).toNat)
  case atStart => exact ⟨0, Nat.zero_le _, rfl, rfl, HN3.out, HB3.out⟩
  case round =>
    obtain ⟨k, hk, rfl, rfl, hown, hbel⟩ := hrel
    by_cases hlt : k < T.length
    · obtain ⟨x, hx⟩ : ∃ x, T.getD k 0 = x := ⟨_, rfl⟩
      have hcl : wr.cell? ⟨g1, k, none⟩ = some (.int .u8 x) := by
        obtain ⟨_, _, e, _, _, _, _, hc⟩ := HO1'.out.shape hTp
        cases e
        rw [hbel.cell (by show g1 < S2; omega), hc k hlt, hx]
      have HS : Hid ((T.take k).map (Value.int .u8) ++ [.int .u8 x] = (T.take (k + 1)).map (Value.int .u8)) := take_snoc hlt hx
      have HW : Hid (wr.ownsRow S2 5 1 (.slice (some ⟨S2, 0, none⟩) k (T.length + 2)) k ((T.take k).map (Value.int .u8))) := hown
      have HBr : Hid (Below S2 w2 wr) := hbel
      have hsz := hbel.size
      clear hown hbel hx
      go_wp2_with (at_builtin; refine wpList_append_fits _ rfl (.tmp 39) (.tmp 44) 31 rfl S2 5 i0 1 Try.underlying31 hi hz1 S2 k (T.length + 2) _ rfl (HW.out.alloc _) ⟨wr.heap.size, 0, none⟩ 1 1 [.int .u8 x] rfl rfl (cell_one_new _ _ _) (by intro u hu; simp at hu; subst hu; rfl) (by omega) ?_; intro w4 hown4 hgrow4)
      rw [HS.out] at hown4
      go_roundw
      case rel => exact ⟨k + 1, by omega, by go_num, rfl, hown4, (HBr.out.alloc (by omega) _).grown hgrow4 (by simp; omega) (by intro q h; cases h; exact Nat.le_refl _)⟩
      case measure => simp [intOf]; omega
    · obtain rfl : k = T.length := by omega
      rw [List.take_length] at hown
      have HW : Hid (wr.ownsRow S2 5 1 (.slice (some ⟨S2, 0, none⟩) T.length (T.length + 2)) T.length (T.map (Value.int .u8))) := hown
      have HBr : Hid (Below S2 w2 wr) := hbel
      have hsz := hbel.size
      clear hown hbel
      by_cases h0 : scale = 0
      · have hz : (((scale : Nat) : Int) == 0) = true := by simpa using h0
        have hUU : Hid (T.map (Value.int .u8) ++ [.int .u8 46] ++ [.int .u8 48] = U.map (Value.int .u8)) := by have := HU.out; rw [if_pos h0] at this; rw [← this]; simp [Hid]
        have hUl2 : U.length = T.length + 1 + 1 := by have := congrArg List.length hUU.out; simp at this; omega
        have HL : Hid (U.length = T.length + 1 + 1) := hUl2
        clear hUl2
        go_wp2_with (first | (at_builtin; refine wpList_append_fits _ rfl (.tmp 48) (.tmp 49) 31 rfl S2 5 i0 1 Try.underlying31 hi hz1 S2 T.length (T.length + 2) _ rfl (HW.out.alloc _) ⟨wr.heap.size, 0, none⟩ 1 1 [.int .u8 46] rfl rfl (cell_one_new _ _ _) (by intro u hu; simp at hu; subst hu; rfl) (by omega) ?_; intro w4 hown4 hgrow4; have hw4 := hgrow4.size; simp at hw4; have HW4 := hide hown4; have HG4 := hide hgrow4; clear hown4 hgrow4) | (at_builtin; refine wpList_append_fits _ rfl (.tmp 51) (.tmp 52) 31 rfl S2 5 i0 1 Try.underlying31 hi hz1 S2 (T.length + 1) (T.length + 2) _ rfl ((unhide HW4).alloc _) ⟨w4.heap.size, 0, none⟩ 1 1 [.int .u8 48] rfl rfl (cell_one_new _ _ _) (by intro u hu; simp at hu; subst hu; rfl) (by omega) ?_; intro w5 hown5 hgrow5) | fail)
        rw [hUU.out] at hown5
        have hB4 : Below S2 w2 w4 := (HBr.out.alloc (by omega) _).grown (unhide HG4) (by simp; omega) (by intro q h; cases h; exact Nat.le_refl _)
        have hB5 : Below S2 w2 w5 := (hB4.alloc (by omega) _).grown hgrow5 (by simp; omega) (by intro q h; cases h; exact Nat.le_refl _)
        have hF := fin HO2.out hB5 hgl2 HL.out (by omega) (by omega) hown5
        rw [HL.out]
        refine hF.mono ?_
        rintro e w6 ⟨rfl, q, rfl⟩
        clear hF
        have HB6 : Hid (Below w.heap.size w (w5.drewN q)) := below_drewN (HB2.out.trans (hB5.mono (by omega))) q
        clear hB5 hB4 hown5 hgrow5
        go_wp2
        go_ret
        exact ⟨rfl, HB6.out⟩
      · have hz : (((scale : Nat) : Int) == 0) = false := by simpa using h0
        have hUU : Hid (T.map (Value.int .u8) ++ [.int .u8 48] = U.map (Value.int .u8)) := by have := HU.out; rw [if_neg h0] at this; rw [← this]; simp [Hid]
        have hUl2 : U.length = T.length + 1 := by have := congrArg List.length hUU.out; simp at this; omega
        have HL : Hid (U.length = T.length + 1) := hUl2
        clear hUl2
        go_wp2_with (first | (at_builtin; refine wpList_append_fits _ rfl (.tmp 51) (.tmp 52) 31 rfl S2 5 i0 1 Try.underlying31 hi hz1 S2 T.length (T.length + 2) _ rfl (HW.out.alloc _) ⟨wr.heap.size, 0, none⟩ 1 1 [.int .u8 48] rfl rfl (cell_one_new _ _ _) (by intro u hu; simp at hu; subst hu; rfl) (by omega) ?_; intro w4 hown4 hgrow4) | fail)
        rw [hUU.out] at hown4
        have hB4 : Below S2 w2 w4 := (HBr.out.alloc (by omega) _).grown hgrow4 (by simp; omega) (by intro q h; cases h; exact Nat.le_refl _)
        have hF := fin HO2.out hB4 hgl2 HL.out (by omega) (by omega) hown4
        rw [HL.out]
        refine hF.mono ?_
        rintro e w6 ⟨rfl, q, rfl⟩
        clear hF
        have HB6 : Hid (Below w.heap.size w (w4.drewN q)) := below_drewN (HB2.out.trans (hB4.mono (by omega))) q
        clear hB4 hown4 hgrow4
        go_wp2
        go_ret
        exact ⟨rfl, HB6.out⟩
end Go.Proofs.Qxb6603093a.fnDecimalAppendToTrailingZero
