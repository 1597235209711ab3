/-
  The contracts of 'pow10u' (27), 'appendWhole' (28), 'appendPadded' (29), 'appendDecimalModel' (20), over a slice that has room.
-/
import Derived.Test.Qxb6603093aBytes
import Derived.Test.Qxb6603093aAppendTo
import Derived.Test.Qxb6603093aBackWalks
import Derived.Maps.AppendAt
namespace Go.Proofs.Qxb6603093a.Mdl
open Go.RowKit Go.PlainAid Dec Byt

/-- 10^k. -/
def p10 (k : Nat) : Nat := 10 ^ k
theorem p10_zero : p10 0 = 1 := rfl
theorem p10_succ (k : Nat) : p10 (k + 1) = p10 k * 10 := Nat.pow_succ 10 k
theorem p10_pos (k : Nat) : 0 < p10 k := Nat.pow_pos (by omega)
theorem p10_le (k : Nat) (h : k ≤ 18) : p10 k ≤ 1000000000000000000 := Nat.pow_le_pow_right (n := 10) (by omega) h
theorem qt_p10 (m k : Nat) : (m : Int) / (p10 k : Int) = (qt m k : Int) := by rw [← Int.natCast_ediv]; rfl

theorem pow10u_any (n : Nat) (hn : n ≤ 18) (w : World) : Calls Try.prog 27 #[.int .i64 (n : Int)] w fun e w' => e = .returned (.int .u64 (p10 n : Nat)) ∧ w' = w := by
  go_enter Try.func27, Try.ntmps27
  go_wp2
  go_loop [3, 4] (fun p c => ∃ k : Nat, k ≤ n ∧ c = .int .i64 k ∧ p = .int .u64 (p10 k : Nat)) (fun _ c => n - (intOf c).toNat)
  case atStart => exact ⟨0, Nat.zero_le _, rfl, rfl⟩
  case round =>
    obtain ⟨k, hk, rfl, rfl⟩ := hrel
    by_cases hlt : k < n
    · have hp := p10_le (k + 1) (by omega)
      rw [p10_succ] at hp
      go_wp2
      go_round
      case rel => exact ⟨k + 1, by omega, by go_num, by rw [p10_succ]; go_num⟩
      case measure => simp [intOf]; omega
    · obtain rfl : k = n := by omega
      go_wp2
      go_ret
      exact ⟨rfl, rfl⟩

theorem snoc {l xs : List Value} {D : List Int} {i : Nat} {x : Int} (h : i < D.length) (hx : D.getD i 0 = x) (hl : l = xs ++ (D.take i).map (Value.int .u8)) : l ++ [.int .u8 x] = xs ++ (D.take (i + 1)).map (Value.int .u8) := by
  rw [hl, List.append_assoc, fnDecimalAppendToReadsBackByDigitsAt.take_snoc h hx]

theorem ret_len {S a b cap : Nat} (h : a = b) : Ending.returned (.slice (some ⟨S, 0, none⟩) a cap) = .returned (.slice (some ⟨S, 0, none⟩) b cap) := by rw [h]
theorem conv_own {w : World} {base S a b cap : Nat} {l l' : List Value} (h : w.ownsRow base 5 1 (.slice (some ⟨S, 0, none⟩) a cap) a l) (ha : a = b) (hl : l = l') : w.ownsRow base 5 1 (.slice (some ⟨S, 0, none⟩) b cap) b l' := by rw [← ha, ← hl]; exact h
theorem p10_le_of (m k : Nat) (h : qt m k ≠ 0) : p10 k ≤ m := by
  unfold p10
  rcases Nat.lt_or_ge m (10 ^ k) with h1 | h1
  · exact absurd (Nat.div_eq_of_lt h1) h
  · exact h1

/-- The law on one byte appended where there is room, behind a new block of one cell. -/
theorem step {W w1 wr : World} {S : Nat} {o : Obj} (h : W.grownBy wr (some S)) (hg : (wr.alloc o).grownBy w1 (some S)) : W.grownBy w1 (some S) :=
  grownBy_trans (grownBy_trans h (World.grownBy_alloc _ _ _)) hg

set_option maxHeartbeats 800000 in
/-- 'appendWhole': the digits of m, no leading zero. -/
theorem whole_any (m J : Nat) (hm : m ≤ 9223372036854775808) (hJ : Len m J) (hJ19 : J ≤ 19) (base S n cap : Nat) (xs : List Value) (w : World) (hown : w.ownsRow base 5 1 (.slice (some ⟨S, 0, none⟩) n cap) n xs) (hroom : n + J ≤ cap) :
    Calls Try.prog 28 #[.slice (some ⟨S, 0, none⟩) n cap, .int .u64 (m : Int)] w fun e w' => e = .returned (.slice (some ⟨S, 0, none⟩) (n + J) cap) ∧ w'.ownsRow base 5 1 (.slice (some ⟨S, 0, none⟩) (n + J) cap) (n + J) (xs ++ (digs m J).map (Value.int .u8)) ∧ w.grownBy w' (some S) := by
  have HW := hide hown
  have HJ := hide hJ
  have hJ1 := hJ.1
  clear hown hJ
  obtain ⟨i0, hi, hz0, hz1, hz2⟩ := info_parts Dec.Try.info5
  go_enter Try.func28, Try.ntmps28
  go_wp2
  go_loop [5] (fun q => ∃ j : Nat, j < J ∧ q = .int .u64 (p10 j : Nat)) (fun q => m + 1 - (intOf q).toNat)
  case atStart => exact ⟨0, by omega, rfl⟩
  case round =>
    obtain ⟨j, hj, rfl⟩ := hrel
    have hp0 := p10_pos j
    have hq := qt_p10 m j
    have hqm := qt_le m j
    by_cases hlt : j + 1 < J
    · have hn0 := (unhide HJ).2.2 (j + 1) (by omega) hlt
      have hpm := p10_le_of m (j + 1) hn0
      rw [qt_succ] at hn0
      rw [p10_succ] at hpm
      have hge : 10 ≤ (qt m j : Int) := by omega
      clear hn0
      go_wp2
      go_round
      case rel => exact ⟨j + 1, hlt, by rw [p10_succ]; go_num⟩
      case measure => simp [intOf]; omega
    · have hn0 := (unhide HJ).2.1
      rw [show J = j + 1 by omega, qt_succ] at hn0
      have hlt10 : (qt m j : Int) < 10 := by omega
      clear hn0
      go_wp2
      clear hq hlt10 hqm hp0
      go_loopw [0, 5] (fun v q wr => ∃ i r : Nat, i + r + 1 = J ∧ q = .int .u64 (p10 r : Nat) ∧ v = .slice (some ⟨S, 0, none⟩) (n + i) cap ∧ wr.ownsRow base 5 1 (.slice (some ⟨S, 0, none⟩) (n + i) cap) (n + i) (xs ++ ((digs m J).take i).map (Value.int .u8)) ∧ w.grownBy wr (some S)) (fun _ q _ => (intOf q).toNat)
      case atStart => exact ⟨0, j, by omega, rfl, rfl, by simpa using unhide HW, World.grownBy.refl _ _⟩
      case round =>
        clear HW
        obtain ⟨i, r, hir, rfl, rfl, hown, hgr⟩ := hrel
        have hp0 := p10_pos r
        have hq := qt_p10 m r
        have hqm := qt_le m r
        have hp := p10_le r (by omega)
        have HX : Hid ((digs m J).getD i 0 = 48 + (qt m r : Int) % 10) := by rw [digs_at m J i (by omega), show J - 1 - i = r by omega]; simp [Hid]
        have HW := hide hown
        have HG := hide hgr
        have hil := digs_length m J
        have HL := hide hil
        clear hown hgr hil
        by_cases hr0 : r = 0
        · have hb : ((p10 r : Int) == 1) = true := by rw [hr0]; rfl
          have HR := hide hr0
          clear hr0
          go_wp2_with (at_builtin; refine wpList_append_fits _ rfl (.tmp 12) (.tmp 19) 31 rfl base 5 i0 1 Try.underlying31 hi hz1 S (n + i) cap _ rfl ((unhide HW).alloc _) ⟨wr.heap.size, 0, none⟩ 1 1 [.int .u8 (48 + (qt m r : Int) % 10)] rfl rfl (cell_one_new _ _ _) (by intro u hu; simp at hu; subst hu; rfl) (by omega) ?_; intro w4 hown4 hgrow4)
          have hr0 := unhide HR
          rw [snoc (by rw [unhide HL]; omega) HX.out rfl, show i + 1 = J by omega, List.take_of_length_le (by rw [unhide HL]; omega), show n + i + 1 = n + J by omega] at hown4
          go_ret
          exact ⟨ret_len (by omega), hown4, step (unhide HG) hgrow4⟩
        · obtain ⟨q, rfl⟩ : ∃ q, r = q + 1 := ⟨r - 1, by omega⟩
          have hb : ((p10 (q + 1) : Int) == 1) = false := by have := p10_pos q; rw [p10_succ, beq_eq_false_iff_ne]; omega
          go_wp2_with (at_builtin; refine wpList_append_fits _ rfl (.tmp 12) (.tmp 19) 31 rfl base 5 i0 1 Try.underlying31 hi hz1 S (n + i) cap _ rfl ((unhide HW).alloc _) ⟨wr.heap.size, 0, none⟩ 1 1 [.int .u8 (48 + (qt m (q + 1) : Int) % 10)] rfl rfl (cell_one_new _ _ _) (by intro u hu; simp at hu; subst hu; rfl) (by omega) ?_; intro w4 hown4 hgrow4)
          rw [snoc (by rw [unhide HL]; omega) HX.out rfl, Nat.add_assoc n i 1] at hown4
          go_roundw
          case rel => exact ⟨i + 1, q, by omega, int_eq (by rw [p10_succ]; omega), rfl, hown4, step (unhide HG) hgrow4⟩
          case measure => have := p10_pos q; simp [intOf, p10_succ]; omega

set_option maxHeartbeats 800000 in
/-- 'appendPadded': exactly 'width' digits. -/
theorem padded_any (f width : Nat) (hf : f ≤ 9223372036854775808) (h1 : 1 ≤ width) (h19 : width ≤ 18) (base S n cap : Nat) (xs : List Value) (w : World) (hown : w.ownsRow base 5 1 (.slice (some ⟨S, 0, none⟩) n cap) n xs) (hroom : n + width ≤ cap) :
    Calls Try.prog 29 #[.slice (some ⟨S, 0, none⟩) n cap, .int .u64 (f : Int), .int .i64 (width : Int)] w fun e w' => e = .returned (.slice (some ⟨S, 0, none⟩) (n + width) cap) ∧ w'.ownsRow base 5 1 (.slice (some ⟨S, 0, none⟩) (n + width) cap) (n + width) (xs ++ (digs f width).map (Value.int .u8)) ∧ w.grownBy w' (some S) := by
  have HW := hide hown
  clear hown
  obtain ⟨i0, hi, hz0, hz1, hz2⟩ := info_parts Dec.Try.info5
  have HP : Hid (∀ w, Calls Try.prog 27 #[.int .i64 ((width : Int) - 1)] w fun e w' => e = .returned (.int .u64 (p10 (width - 1) : Nat)) ∧ w' = w) := fun w => by
    have := pow10u_any (width - 1) (by omega) w
    rw [show ((width - 1 : Nat) : Int) = (width : Int) - 1 by omega] at this
    exact this
  go_enter Try.func29, Try.ntmps29
  go_wp2_with (go_at_call 27; refine (HP.out _).mono ?_; rintro e w' ⟨rfl, hw'⟩; obtain rfl := hw'.symm)
  go_loopw [0, 7, 8] (fun v q c wr => ∃ i : Nat, i ≤ width ∧ c = .int .i64 i ∧ q = .int .u64 ((p10 (width - i) / 10 : Nat) : Int) ∧ v = .slice (some ⟨S, 0, none⟩) (n + i) cap ∧ wr.ownsRow base 5 1 (.slice (some ⟨S, 0, none⟩) (n + i) cap) (n + i) (xs ++ ((digs f width).take i).map (Value.int .u8)) ∧ w.grownBy wr (some S)) (fun _ _ c _ => width - (intOf c).toNat)
  case atStart => exact ⟨0, Nat.zero_le _, rfl, int_eq (by rw [show width - 0 = width - 1 + 1 by omega, p10_succ]; omega), rfl, by simpa using unhide HW, World.grownBy.refl _ _⟩
  case round =>
    clear HW
    obtain ⟨i, hiw, rfl, hq0, rfl, hown, hgr⟩ := hrel
    have hil := digs_length f width
    by_cases hlt : i < width
    · obtain ⟨r, hr⟩ : ∃ r, width - i = r + 1 := ⟨width - i - 1, by omega⟩
      have hq1 : u7 = .int .u64 (p10 r : Nat) := by rw [hq0, hr, p10_succ]; exact int_eq (by omega)
      clear hq0
      subst hq1
      have hp0 := p10_pos r
      have hq := qt_p10 f r
      have hqm := qt_le f r
      have hp := p10_le r (by omega)
      have HX : Hid ((digs f width).getD i 0 = 48 + (qt f r : Int) % 10) := by rw [digs_at f width i hlt, show width - 1 - i = r by omega]; simp [Hid]
      have HW := hide hown
      have HG := hide hgr
      have HL := hide hil
      have HR := hide hr
      clear hown hgr hil hr
      go_wp2_with (at_builtin; refine wpList_append_fits _ rfl (.tmp 17) (.tmp 24) 31 rfl base 5 i0 1 Try.underlying31 hi hz1 S (n + i) cap _ rfl ((unhide HW).alloc _) ⟨wr.heap.size, 0, none⟩ 1 1 [.int .u8 (48 + (qt f r : Int) % 10)] rfl rfl (cell_one_new _ _ _) (by intro u hu; simp at hu; subst hu; rfl) (by omega) ?_; intro w4 hown4 hgrow4)
      rw [snoc (by rw [unhide HL]; omega) HX.out rfl, Nat.add_assoc n i 1] at hown4
      have hr := unhide HR
      go_roundw
      case rel => exact ⟨i + 1, by omega, by go_num, int_eq (by rw [show width - (i + 1) = r by omega]; omega), rfl, hown4, step (unhide HG) hgrow4⟩
      case measure => simp [intOf]; omega
    · obtain rfl : i = width := by omega
      rw [List.take_of_length_le (by omega)] at hown
      clear hil
      subst hq0
      have HW := hide hown
      clear hown
      go_wp2
      go_ret
      exact ⟨rfl, unhide HW, hgr⟩

theorem digs_mod (m k s : Nat) (h : k ≤ s) : digs (m % p10 s) k = digs m k := by
  induction k with
  | zero => rfl
  | succ n ih =>
    show (48 + ((qt (m % p10 s) n % 10 : Nat) : Int)) :: digs (m % p10 s) n = (48 + ((qt m n % 10 : Nat) : Int)) :: digs m n
    rw [ih (by omega)]
    have : qt (m % p10 s) n % 10 = qt m n % 10 := by
      unfold qt p10
      rw [show s = n + (s - n - 1 + 1) by omega, Nat.pow_add, Nat.mod_mul_right_div_self, Nat.pow_succ]
      exact Nat.mod_mod_of_dvd _ (Nat.dvd_mul_left _ _)
    rw [this]

theorem modDiv (m s : Nat) : (m : Int) % (p10 s : Int) = ((m % p10 s : Nat) : Int) := by rw [Int.natCast_emod]

set_option maxHeartbeats 800000 in
/-- 'appendDecimalModel': the text of the decimal. -/
theorem model_any (coef : Int) (scale J : Nat) (h1 : -9223372036854775808 ≤ coef) (h2 : coef ≤ 9223372036854775807) (hs : scale ≤ 18) (hJ : Len (qt coef.natAbs scale) J) (hJs : J + scale ≤ 19) (base S n cap : Nat) (xs : List Value) (w : World) (hown : w.ownsRow base 5 1 (.slice (some ⟨S, 0, none⟩) n cap) n xs) (hroom : n + 24 ≤ cap) (L : Nat) (hL : (txt (decide (coef < 0)) coef.natAbs scale J).length = L) :
    Calls Try.prog 20 #[.slice (some ⟨S, 0, none⟩) n cap, .int .i64 coef, .int .i64 (scale : Int)] w fun e w' => e = .returned (.slice (some ⟨S, 0, none⟩) (n + L) cap) ∧ w'.ownsRow base 5 1 (.slice (some ⟨S, 0, none⟩) (n + L) cap) (n + L) (xs ++ (txt (decide (coef < 0)) coef.natAbs scale J).map (Value.int .u8)) ∧ w.grownBy w' (some S) := by
  obtain ⟨mag, hmag⟩ : ∃ m, coef.natAbs = m := ⟨_, rfl⟩
  have HM : Hid (∀ w, Calls Try.prog 23 #[.int .i64 coef] w fun e w' => e = .returned (.int .u64 (mag : Int)) ∧ w' = w) := fun w => by rw [← hmag]; exact fnDecimalAppendToReadsBackByDigitsAt.magnitudeOf_any coef h1 h2 w
  have HP : Hid (∀ w, Calls Try.prog 27 #[.int .i64 (scale : Int)] w fun e w' => e = .returned (.int .u64 (p10 scale : Nat)) ∧ w' = w) := fun w => pow10u_any scale hs w
  have hm : mag ≤ 9223372036854775808 := by omega
  rw [hmag] at hJ hL ⊢
  have hq := qt_p10 mag scale
  have hqm := qt_le mag scale
  have hr := modDiv mag scale
  have hrm : mag % p10 scale ≤ mag := Nat.mod_le _ _
  obtain ⟨fr, hfr⟩ : ∃ f, mag % p10 scale = f := ⟨_, rfl⟩
  rw [hfr] at hr hrm
  have hp0 := p10_pos scale
  have hp := p10_le scale hs
  obtain ⟨i0, hi, hz0, hz1, hz2⟩ := info_parts Dec.Try.info5
  have HD : Hid (digs fr scale = digs mag scale) := by rw [← hfr]; exact digs_mod mag scale scale (Nat.le_refl _)
  have HJ := hide hJ
  have HF := hide hmag
  clear hmag hfr hJ
  obtain ⟨T, hT⟩ : ∃ T, txt (decide (coef < 0)) mag scale J = T := ⟨_, rfl⟩
  rw [hT] at hL ⊢
  have HT := hide hT
  have HL := hide hL
  clear hT hL
  have HW := hide hown
  clear hown
  by_cases hneg : coef < 0
  · by_cases hs0 : 0 < scale
    · have hTx : T = 45 :: (digs (qt mag scale) J ++ (46 :: digs mag scale)) := by rw [← unhide HT]; simp [txt, hneg, Nat.ne_of_gt hs0]
      have hLx : L = 1 + J + 1 + scale := by rw [← unhide HL, hTx]; simp [digs_length]; omega
      have hL1 : L ≤ 1 + J + 1 + scale := by omega
      have hL2 : 1 + J + 1 + scale ≤ L := by omega
      have HTx := hide hTx
      clear hTx hLx
      go_enter Try.func20, Try.ntmps20
      go_wp2_with (first | (go_at_call 23; refine (HM.out _).mono ?_; rintro e w' ⟨rfl, hw'⟩; obtain rfl := hw'.symm) | (go_at_call 27; refine (HP.out _).mono ?_; rintro e w' ⟨rfl, hw'⟩; obtain rfl := hw'.symm) | (at_builtin; refine wpList_append_fits _ rfl (.tmp 15) (.tmp 16) 31 rfl base 5 i0 1 Try.underlying31 hi hz1 S n cap _ rfl ((unhide HW).alloc _) ⟨w.heap.size, 0, none⟩ 1 1 [.int .u8 45] rfl rfl (cell_one_new _ _ _) (by intro u hu; simp at hu; subst hu; rfl) (by omega) ?_; intro w4 hown4 hgrow4; have HW4 := hide hown4; have HG4 := hide (grownBy_trans (World.grownBy_alloc w _ _) hgrow4); clear hown4 hgrow4))
      refine (whole_any (qt mag scale) J (by omega) (unhide HJ) (by omega) base S (n + 1) cap _ w4 (unhide HW4) (by omega)).mono ?_
      rintro e w5 ⟨rfl, ho5, hg5⟩
      have HW5 := hide ho5
      have HG5 := hide (grownBy_trans (unhide HG4) hg5)
      clear ho5 hg5
      go_wp2_with (at_builtin; refine wpList_append_fits _ rfl (.tmp 25) (.tmp 26) 31 rfl base 5 i0 1 Try.underlying31 hi hz1 S ((n + 1) + J) cap _ rfl ((unhide HW5).alloc _) ⟨w5.heap.size, 0, none⟩ 1 1 [.int .u8 46] rfl rfl (cell_one_new _ _ _) (by intro u hu; simp at hu; subst hu; rfl) (by omega) ?_; intro w6 hown6 hgrow6; have HW6 := hide hown6; have HG6 := hide (step (unhide HG5) hgrow6); clear hown6 hgrow6)
      refine (padded_any fr scale (by omega) (by omega) hs base S ((n + 1) + J + 1) cap _ w6 (unhide HW6) (by omega)).mono ?_
      rintro e w7 ⟨rfl, ho7, hg7⟩
      have HW7 := hide ho7
      have HG7 := hide (grownBy_trans (unhide HG6) hg7)
      clear ho7 hg7
      go_wp2
      go_ret
      exact ⟨ret_len (by omega), conv_own (unhide HW7) (by omega) (by rw [(unhide HTx), unhide HD]; simp), unhide HG7⟩
    · have hTx : T = 45 :: (digs (qt mag scale) J ++ []) := by rw [← unhide HT]; simp [txt, hneg, show scale = 0 by omega]
      have hLx : L = 1 + J := by rw [← unhide HL, hTx]; simp [digs_length]; omega
      have hL1 : L ≤ 1 + J := by omega
      have hL2 : 1 + J ≤ L := by omega
      have HTx := hide hTx
      clear hTx hLx
      go_enter Try.func20, Try.ntmps20
      go_wp2_with (first | (go_at_call 23; refine (HM.out _).mono ?_; rintro e w' ⟨rfl, hw'⟩; obtain rfl := hw'.symm) | (go_at_call 27; refine (HP.out _).mono ?_; rintro e w' ⟨rfl, hw'⟩; obtain rfl := hw'.symm) | (at_builtin; refine wpList_append_fits _ rfl (.tmp 15) (.tmp 16) 31 rfl base 5 i0 1 Try.underlying31 hi hz1 S n cap _ rfl ((unhide HW).alloc _) ⟨w.heap.size, 0, none⟩ 1 1 [.int .u8 45] rfl rfl (cell_one_new _ _ _) (by intro u hu; simp at hu; subst hu; rfl) (by omega) ?_; intro w4 hown4 hgrow4; have HW4 := hide hown4; have HG4 := hide (grownBy_trans (World.grownBy_alloc w _ _) hgrow4); clear hown4 hgrow4))
      refine (whole_any (qt mag scale) J (by omega) (unhide HJ) (by omega) base S (n + 1) cap _ w4 (unhide HW4) (by omega)).mono ?_
      rintro e w5 ⟨rfl, ho5, hg5⟩
      have HW5 := hide ho5
      have HG5 := hide (grownBy_trans (unhide HG4) hg5)
      clear ho5 hg5
      go_wp2
      go_ret
      exact ⟨ret_len (by omega), conv_own (unhide HW5) (by omega) (by rw [(unhide HTx)]; simp), unhide HG5⟩
  · by_cases hs0 : 0 < scale
    · have hTx : T = digs (qt mag scale) J ++ (46 :: digs mag scale) := by rw [← unhide HT]; simp [txt, hneg, Nat.ne_of_gt hs0]
      have hLx : L = J + 1 + scale := by rw [← unhide HL, hTx]; simp [digs_length]; omega
      have hL1 : L ≤ J + 1 + scale := by omega
      have hL2 : J + 1 + scale ≤ L := by omega
      have HTx := hide hTx
      clear hTx hLx
      go_enter Try.func20, Try.ntmps20
      go_wp2_with (first | (go_at_call 23; refine (HM.out _).mono ?_; rintro e w' ⟨rfl, hw'⟩; obtain rfl := hw'.symm) | (go_at_call 27; refine (HP.out _).mono ?_; rintro e w' ⟨rfl, hw'⟩; obtain rfl := hw'.symm) | fail)
      have HW4 := HW
      have HG4 := hide (World.grownBy.refl w (some S))
      refine (whole_any (qt mag scale) J (by omega) (unhide HJ) (by omega) base S n cap _ w (unhide HW4) (by omega)).mono ?_
      rintro e w5 ⟨rfl, ho5, hg5⟩
      have HW5 := hide ho5
      have HG5 := hide (grownBy_trans (unhide HG4) hg5)
      clear ho5 hg5
      go_wp2_with (at_builtin; refine wpList_append_fits _ rfl (.tmp 25) (.tmp 26) 31 rfl base 5 i0 1 Try.underlying31 hi hz1 S (n + J) cap _ rfl ((unhide HW5).alloc _) ⟨w5.heap.size, 0, none⟩ 1 1 [.int .u8 46] rfl rfl (cell_one_new _ _ _) (by intro u hu; simp at hu; subst hu; rfl) (by omega) ?_; intro w6 hown6 hgrow6; have HW6 := hide hown6; have HG6 := hide (step (unhide HG5) hgrow6); clear hown6 hgrow6)
      refine (padded_any fr scale (by omega) (by omega) hs base S (n + J + 1) cap _ w6 (unhide HW6) (by omega)).mono ?_
      rintro e w7 ⟨rfl, ho7, hg7⟩
      have HW7 := hide ho7
      have HG7 := hide (grownBy_trans (unhide HG6) hg7)
      clear ho7 hg7
      go_wp2
      go_ret
      exact ⟨ret_len (by omega), conv_own (unhide HW7) (by omega) (by rw [(unhide HTx), unhide HD]; simp), unhide HG7⟩
    · have hTx : T = digs (qt mag scale) J ++ [] := by rw [← unhide HT]; simp [txt, hneg, show scale = 0 by omega]
      have hLx : L = J := by rw [← unhide HL, hTx]; simp [digs_length]
      have hL1 : L ≤ J := by omega
      have hL2 : J ≤ L := by omega
      have HTx := hide hTx
      clear hTx hLx
      go_enter Try.func20, Try.ntmps20
      go_wp2_with (first | (go_at_call 23; refine (HM.out _).mono ?_; rintro e w' ⟨rfl, hw'⟩; obtain rfl := hw'.symm) | (go_at_call 27; refine (HP.out _).mono ?_; rintro e w' ⟨rfl, hw'⟩; obtain rfl := hw'.symm) | fail)
      have HW4 := HW
      have HG4 := hide (World.grownBy.refl w (some S))
      refine (whole_any (qt mag scale) J (by omega) (unhide HJ) (by omega) base S n cap _ w (unhide HW4) (by omega)).mono ?_
      rintro e w5 ⟨rfl, ho5, hg5⟩
      have HW5 := hide ho5
      have HG5 := hide (grownBy_trans (unhide HG4) hg5)
      clear ho5 hg5
      go_wp2
      go_ret
      exact ⟨ret_len (by omega), conv_own (unhide HW5) (by omega) (by rw [(unhide HTx)]; simp), unhide HG5⟩
end Go.Proofs.Qxb6603093a.Mdl
