/-
  The walk of 'FnDecimalAppendToReadsBackByDigitsAt' (function 9).
-/
import Derived.Test.Qxb6603093aBytes
import Derived.Test.Qxb6603093aAppendTo
import Derived.Test.Qxb6603093aBack
import Derived.Maps.AppendAt
namespace Go.Proofs.Qxb6603093a.fnDecimalAppendToReadsBackByDigitsAt
open Go.RowKit Go.PlainAid Dec Byt

theorem magOf_neg (c : Int) (h : c < 0) (h1 : -9223372036854775808 ≤ c) : IntKind.u64.wrap (-IntKind.u64.wrap c) = (c.natAbs : Int) := by
  rw [IntKind.wrap_u64, IntKind.wrap_u64]; omega
theorem magnitudeOf_any (c : Int) (h1 : -9223372036854775808 ≤ c) (h2 : c ≤ 9223372036854775807) (w : World) :
    Calls Try.prog 23 #[.int .i64 c] w fun e w' => e = .returned (.int .u64 (c.natAbs : Int)) ∧ w' = w := by
  by_cases h : c < 0
  · go_enter Try.func23, Try.ntmps23
    go_wp2
    go_ret
    exact ⟨ret_int (magOf_neg c h h1), rfl⟩
  · go_enter Try.func23, Try.ntmps23
    go_wp2
    go_ret
    exact ⟨ret_int (by omega), rfl⟩

/-- 'string(b)' of a row of digits. -/
theorem str_of (D : List Int) (hD : ∀ j, j < D.length → 48 ≤ D.getD j 0 ∧ D.getD j 0 ≤ 57) (g cap n : Nat) (hn : D.length = n) (w : World) (hc : ∀ j, j < n → w.cell? ⟨g, j, none⟩ = some (.int .u8 (D.getD j 0))) :
    ∃ s : ByteArray, s.size = n ∧ (∀ j, j < n → bt s j = D.getD j 0) ∧ (convert 31 9 (.slice (some ⟨g, 0, none⟩) n cap)).run Try.prog w = .ok (.string s) w := by
  have hl : (D.map (fun x => UInt8.ofNat x.toNat)).length = n := by simpa using hn
  have hv : ∀ j (hj : j < (D.map (fun x => UInt8.ofNat x.toNat)).length), (((D.map (fun x => UInt8.ofNat x.toNat))[j]).toNat : Int) = D.getD j 0 := fun j hj => by
    have h2 : j < D.length := by simpa using hj
    have := hD j h2
    simp only [List.getElem_map, List.getD_eq_getElem?_getD, List.getElem?_eq_getElem h2, Option.getD_some] at this ⊢
    simp
    omega
  refine ⟨⟨(D.map (fun x => UInt8.ofNat x.toNat)).toArray⟩, ?_, fun j hj => ?_, ?_⟩
  · show (D.map (fun x => UInt8.ofNat x.toNat)).toArray.size = n
    simpa using hn
  · unfold bt
    have h2 : j < (⟨(D.map (fun x => UInt8.ofNat x.toNat)).toArray⟩ : ByteArray).size := by
      show j < (D.map (fun x => UInt8.ofNat x.toNat)).toArray.size
      simpa [hn] using hj
    rw [dif_pos h2, ← hv j (by rw [hl]; exact hj)]
    rfl
  · have := run_convert_bytes_back (P := Try.prog) w 31 9 5 ⟨g, 0, none⟩ cap (D.map (fun x => UInt8.ofNat x.toNat)) Try.underlying31 Try.underlying5 Try.underlying9 (fun j hj => by
      rw [show (⟨g, 0, none⟩ : Addr).add j = ⟨g, j, none⟩ from by simp [Addr.add]; omega, hc j (by rw [← hl]; exact hj), hv j hj])
    rw [hl] at this
    exact this

theorem uwrap (m : Nat) (h : (m : Int) ≤ 9223372036854775808) : (IntKind.u64.wrap (wrap64 (m : Int)) == (m : Int)) = true := by
  rw [IntKind.wrap_u64, beq_iff_eq]
  simp only [wrap64]
  omega

/-- The digits that the loop gathered, as a string, and what 'digitsAt' reads off it. -/
theorem ending (coef : Int) (scale J k S cap : Nat) (D : List Int) (wr : World) (h1 : -9223372036854775808 ≤ coef) (h2 : coef ≤ 9223372036854775807) (hk : k = scale + J) (PD : digs coef.natAbs (scale + J) = D) (HJ : Len (qt coef.natAbs scale) J) (hk1 : k ≤ 100)
    (hown : wr.ownsRow S 5 1 (.slice (some ⟨S, 0, none⟩) k cap) k ((D.take k).map (Value.int .u8))) :
    ∃ (sx : ByteArray) (vv x0 : Int), (convert 31 9 (.slice (some ⟨S, 0, none⟩) k cap)).run Try.prog wr = .ok (.string sx) wr ∧
      (∀ w, Calls Try.prog 11 #[.string sx, .int .i64 0, .int .i64 (k : Int)] w fun e w' => e = .returned (.tuple #[.int .i64 vv, .bool true]) ∧ Below w.heap.size w w') ∧
      (IntKind.u64.wrap vv == ((coef.natAbs : Nat) : Int)) = true ∧ wr.cell? ⟨S, 0, none⟩ = some (.int .u8 x0) ∧ 48 ≤ x0 ∧ (1 < J → 48 < x0) := by
  subst hk
  have hDl : D.length = scale + J := by rw [← PD]; exact digs_length _ _
  have hJ1 := HJ.1
  have hD : ∀ j, j < D.length → 48 ≤ D.getD j 0 ∧ D.getD j 0 ≤ 57 := fun j hj => by rw [← PD]; exact digs_bd _ _ _ (by omega)
  have hcx : ∀ j, j < scale + J → wr.cell? ⟨S, j, none⟩ = some (.int .u8 (D.getD j 0)) := fun j hj => by
    rw [World.ownsRow.cellAt hown j (by omega), List.take_of_length_le (by omega)]
    simp [hDl, hj]
  obtain ⟨sx, hsx, hsb, hconv⟩ := str_of D hD S cap (scale + J) hDl wr hcx
  have hb : ∀ j, j < scale + J → Dig.bs sx 0 j = (digs coef.natAbs (scale + J)).getD j 0 := fun j hj => by
    rw [PD, ← hsb j hj]; unfold Dig.bs; rw [Nat.zero_add]
  have hq : qt coef.natAbs (scale + J) = 0 := by rw [← qt_qt]; exact HJ.2.1
  have hdv : Dig.dv (Dig.bs sx 0) (scale + J) = wrap64 ((coef.natAbs : Nat) : Int) := by
    rw [Dig.dv_hv, hv_digs coef.natAbs (scale + J) hq _ hb (scale + J) (Nat.le_refl _), Nat.sub_self, qt_zero]
  refine ⟨sx, wrap64 ((coef.natAbs : Nat) : Int), D.getD 0 0, hconv, fun w => ?_, ?_, hcx 0 (by omega), (hD 0 (by omega)).1, fun h => by rw [← PD]; exact lead _ _ _ HJ h⟩
  · have := Dig.shim_long sx 0 (scale + J) (by unfold maxLen; omega) (by omega) w
    rw [← Dig.res_ok (ok_digs coef.natAbs (scale + J) _ hb (scale + J) (Nat.le_refl _)), hdv] at this
    exact this
  · exact uwrap coef.natAbs (by omega)

theorem ret_true {b : Bool} (h : b = true) : Ending.returned (.bool b) = .returned (.bool true) := by rw [h]
theorem take_snoc {T : List Int} {k : Nat} {x : Int} (h : k < T.length) (hx : T.getD k 0 = x) : (T.take k).map (Value.int .u8) ++ [.int .u8 x] = (T.take (k + 1)).map (Value.int .u8) := by
  rw [List.take_succ_eq_append_getElem h, List.map_append, ← hx]
  simp [h]

/-- What the loop over the text keeps: i of its bytes behind the sign have been seen. -/
def Seen (s J i k : Nat) (p : Int) : Prop := (i ≤ J ∧ k = i ∧ p = -1) ∨ (J < i ∧ k + 1 = i ∧ p = ((s + J : Nat) : Int))

set_option maxHeartbeats 2000000 in
theorem main_walk (coef : Int) (scale : Nat) (hs : scale ≤ 18) (h1 : -9223372036854775808 ≤ coef) (h2 : coef ≤ 9223372036854775807) (w : World) :
    Calls Try.prog 9 #[.int .i64 coef, .int .i64 (scale : Int)] w fun e w' => e = .returned (.bool true) ∧ Below w.heap.size w w' := by
  obtain ⟨J, hJ, hJs⟩ := len_of coef scale h1 h2 hs
  have hJ1 := hJ.1
  obtain ⟨neg, hneg⟩ : ∃ neg, decide (coef < 0) = neg := ⟨_, rfl⟩
  obtain ⟨T, hT⟩ : ∃ T, txt neg coef.natAbs scale J = T := ⟨_, rfl⟩
  obtain ⟨D, hD⟩ : ∃ D, digs coef.natAbs (scale + J) = D := ⟨_, rfl⟩
  have A1 : Hid (∀ (w : World), Calls Try.prog 21 #[.int .i64 coef, .int .i64 (scale : Int), .slice none 0 0] w fun e w' => ∃ v', e = .returned v' ∧ Owns w' w.heap.size v' T ∧ w.grownBy w' none) := fun w => by
    have := shim_any coef scale J w.heap.size 0 [] (.slice none 0 0) w h1 h2 hs hJ hJs (World.ownsRow_nil _ _ _ _) (Nat.le_refl _) (by omega)
    rw [hneg, hT] at this
    simpa [Owns, Value.ownBlock] using this
  obtain ⟨i0, hi, hz0, hz1, hz2⟩ := info_parts Dec.Try.info5
  have hDl : D.length = scale + J := by rw [← hD]; exact digs_length _ _
  have hTl := txt_len neg coef.natAbs scale J
  have P1 : Hid (∀ i, i < J → T.getD (st neg + i) 0 = D.getD i 0) := fun i hi => by rw [← hT, ← hD]; exact txt_whole _ _ _ _ _ hi
  have P2 : Hid (0 < scale → T.getD (st neg + J) 0 = 46) := fun h => by rw [← hT]; exact txt_point _ _ _ _ h
  have P3 : Hid (0 < scale → ∀ i, J ≤ i → T.getD (st neg + (i + 1)) 0 = D.getD i 0) := fun h i hi => by rw [← hT, ← hD]; exact txt_frac _ _ _ _ _ h hi
  have P4 : Hid (∀ i, i < scale + J → 48 ≤ D.getD i 0 ∧ D.getD i 0 ≤ 57) := fun i hi => by rw [← hD]; exact digs_bd _ _ _ hi
  have P5 : Hid (1 < J → 48 < D.getD 0 0) := fun h => by rw [← hD]; exact lead _ _ _ hJ h
  have P6 : Hid (neg = true → T.getD 0 0 = 45) := fun h => by rw [← hT, h]; rfl
  have PD : Hid (digs coef.natAbs (scale + J) = D) := hD
  have PL : Hid (D.length = scale + J) := hDl
  have HJ : Hid (Len (qt coef.natAbs scale) J) := hJ
  rw [hT] at hTl
  have hTp : 0 < T.length := by rw [hTl]; omega
  have hTu : T.length ≤ 100 := by rw [hTl]; unfold st; split <;> split <;> omega
  have PT : Hid (T.length = st neg + J + (if scale = 0 then 0 else scale + 1)) := hTl
  clear hT hD hDl hTl hJ
  cases neg with
  | true =>
    have hc : coef < 0 := by simpa using hneg
    clear hneg
    have hx0 : T.getD 0 0 = 45 := P6.out rfl
    have HX0 : Hid (T.getD 0 0 = 45) := hx0
    clear hx0
    obtain ⟨s, hs1⟩ : ∃ s, st true = s := ⟨_, rfl⟩
    have HS : Hid (s = 1) := hs1.symm
    rw [hs1] at P1 P2 P3 PT
    clear hs1
    have hs1 : s ≤ 1 := by rw [HS.out]; omega
    go_enter Try.func9, Try.ntmps9
    go_wp2_with fail
    refine (A1.out _).mono ?_
    rintro e w1 ⟨v1, rfl, ho1, hg1⟩
    obtain ⟨g1, c1, rfl, hgb1, hgl1, hc1, hm1, hcell1⟩ := ho1.shape hTp
    have hc0 := hcell1 0 hTp
    rw [HX0.out] at hc0
    have HC1 : Hid (∀ j, j < T.length → w1.cell? ⟨g1, j, none⟩ = some (.int .u8 (T.getD j 0))) := hcell1
    have HB1 : Hid (Below w.heap.size w w1) := (Below.refl _ _).grown hg1 (Nat.le_refl _) (by intro k h; cases h)
    have hw1 := hg1.size
    clear ho1 hg1 hcell1 A1
    go_wp2_with (at_make; refine wpList_make_own _ rfl _ _ 31 rfl w1.heap.size 5 i0 (.int .u8 0) 1 Try.underlying31 hi hz0 hz1 _ _ _ T.length rfl rfl (by omega) (by rw [hz2]; omega) (by unfold maxLen; omega) (Nat.le_refl _) ?_; intro w3 hown3 hgrow3)
    have HN3 : Hid (w3.ownsRow w1.heap.size 5 1 (.slice (some ⟨w1.heap.size, 0, none⟩) 0 T.length) 0 []) := hown3
    have HB3 : Hid (Below w1.heap.size w1 w3) := (Below.refl _ _).grown hgrow3 (Nat.le_refl _) (by intro k h; cases h)
    clear hown3 hgrow3 hc0
    obtain ⟨S, hS⟩ : ∃ n, w1.heap.size = n := ⟨_, rfl⟩
    rw [hS] at hw1 hgl1 HN3 HB3 ⊢
    have hS3 : S ≤ w1.heap.size := by omega
    clear hS
    have hTge : s + J ≤ T.length := by rw [PT.out]; omega
    go_loopw [7, 8, 9] (fun v pt c wr => ∃ (i k : Nat) (p : Int), s + i ≤ T.length ∧ c = .int .i64 (s + i : Nat) ∧ v = .slice (some ⟨S, 0, none⟩) k T.length ∧ pt = .int .i64 p ∧ Seen s J i k p ∧ wr.ownsRow S 5 1 (.slice (some ⟨S, 0, none⟩) k T.length) k ((D.take k).map (Value.int .u8)) ∧ Below S w1 wr) (fun _ _ c _ => T.length - (intOf c).toNat)
    case atStart => exact ⟨0, 0, -1, by omega, by rw [HS.out]; rfl, rfl, rfl, .inl ⟨Nat.zero_le _, rfl, rfl⟩, HN3.out, HB3.out⟩
    case round =>
      clear HN3 HB3
      obtain ⟨i, k, p, hsi, rfl, rfl, rfl, hseen, hown, hbel⟩ := hrel
      rcases hseen with ⟨hiJ, rfl, rfl⟩ | ⟨hJi, hki, rfl⟩
      · by_cases hlt : k < J
        · obtain ⟨x, hxD⟩ : ∃ x, D.getD k 0 = x := ⟨_, rfl⟩
          have hx : T.getD (s + k) 0 = x := by rw [← hxD]; exact P1.out k hlt
          obtain ⟨hx1, hx2⟩ : 48 ≤ x ∧ x ≤ 57 := by rw [← hxD]; exact P4.out k (by omega)
          have hlt2 : s + k < T.length := by omega
          have hcl : wr.cell? ⟨g1, s + k, none⟩ = some (.int .u8 x) := by rw [hbel.cell (by show g1 < S; omega), HC1.out _ (by omega), hx]
          have HS2 : Hid ((D.take k).map (Value.int .u8) ++ [.int .u8 x] = (D.take (k + 1)).map (Value.int .u8)) := take_snoc (by rw [PL.out]; omega) hxD
          have HW : Hid (wr.ownsRow S 5 1 (.slice (some ⟨S, 0, none⟩) k T.length) k ((D.take k).map (Value.int .u8))) := hown
          have HBr : Hid (Below S w1 wr) := hbel
          have hsz := hbel.size
          clear hown hbel hx hxD
          go_wp2_with (at_builtin; refine wpList_append_fits _ rfl (.tmp 54) (.tmp 59) 31 rfl S 5 i0 1 Try.underlying31 hi hz1 S k T.length _ rfl (HW.out.alloc _) ⟨wr.heap.size, 0, none⟩ 1 1 [.int .u8 x] rfl rfl (cell_one_new _ _ _) (by intro u hu; simp at hu; subst hu; rfl) (by omega) ?_; intro w4 hown4 hgrow4)
          rw [HS2.out] at hown4
          go_roundw
          case rel => exact ⟨k + 1, k + 1, -1, by omega, by go_num, rfl, rfl, .inl ⟨by omega, rfl, rfl⟩, hown4, (HBr.out.alloc (by omega) _).grown hgrow4 (by simp; omega) (by intro q h; cases h; exact Nat.le_refl _)⟩
          case measure => simp [intOf]; omega
        · obtain rfl : k = J := by omega
          by_cases hz : scale = 0
          · have hzb : (((scale : Nat) : Int) == 0) = true := by simpa using hz
            have hTk : T.length ≤ s + k := by rw [PT.out, if_pos hz]; omega
            have hk1 : k ≤ scale + k := by omega
            have hk2 : scale + k ≤ k := by omega
            obtain ⟨J, hJk⟩ : ∃ J, J = k := ⟨_, rfl⟩
            rw [← hJk] at hJ1 hJs HJ PD PL P1 P2 P3 P4 P5 hiJ hlt hk1 hk2
            have hJk1 : J ≤ k := by omega
            have hJk2 : k ≤ J := by omega
            clear hJk hiJ hlt
            obtain ⟨sx, vv, x0, hconv, hsh, hvv, hcx0, hx1, hx2⟩ := ending coef scale J k S T.length D wr h1 h2 (by omega) PD.out HJ.out (by omega) hown
            have HSH := hide hsh
            have HV := hide hvv
            have HBr : Hid (Below w.heap.size w wr) := HB1.out.trans (hbel.mono hw1)
            clear hown hbel hsh hvv
            by_cases hJ2 : 1 < J
            · have hx3 : (x0 == 48) = false := beq_eq_false_iff_ne.2 (by have := hx2 hJ2; omega)
              clear hx2
              go_wp2_with (first | (go_at_call 11; refine (HSH.out _).mono ?_; rintro e w6 ⟨rfl, hb6⟩) | (go_at_call 23; refine (magnitudeOf_any _ h1 h2 _).mono ?_; rintro e w7 ⟨rfl, rfl⟩))
              go_ret
              exact ⟨ret_true HV.out, HBr.out.trans (Below.mono (by assumption) HBr.out.size)⟩
            · clear hx2
              go_wp2_with (first | (go_at_call 11; refine (HSH.out _).mono ?_; rintro e w6 ⟨rfl, hb6⟩) | (go_at_call 23; refine (magnitudeOf_any _ h1 h2 _).mono ?_; rintro e w7 ⟨rfl, rfl⟩))
              go_ret
              exact ⟨ret_true HV.out, HBr.out.trans (Below.mono (by assumption) HBr.out.size)⟩
          · have hzb : (((scale : Nat) : Int) == 0) = false := by simpa using hz
            have hTk : s + k < T.length := by rw [PT.out, if_neg hz]; omega
            have hcl : wr.cell? ⟨g1, s + k, none⟩ = some (.int .u8 46) := by rw [hbel.cell (by show g1 < S; omega), HC1.out _ (by omega), P2.out (by omega)]
            have HW : Hid (wr.ownsRow S 5 1 (.slice (some ⟨S, 0, none⟩) k T.length) k ((D.take k).map (Value.int .u8))) := hown
            have HBr : Hid (Below S w1 wr) := hbel
            clear hown hbel
            go_wp2
            go_roundw
            case rel => exact ⟨k + 1, k, _, by omega, by go_num, rfl, rfl, .inr ⟨by omega, rfl, by go_num⟩, HW.out, HBr.out⟩
            case measure => simp [intOf]; omega
      · subst hki
        have hz : ¬ scale = 0 := fun e => by have := PT.out; rw [if_pos e] at this; omega
        have hzb : (((scale : Nat) : Int) == 0) = false := by simpa using hz
        have hTs : T.length ≤ s + J + (scale + 1) ∧ s + J + (scale + 1) ≤ T.length := by rw [PT.out, if_neg hz]; omega
        obtain ⟨hT1, hT2⟩ := hTs
        by_cases hlt2 : s + (k + 1) < T.length
        · obtain ⟨x, hxD⟩ : ∃ x, D.getD k 0 = x := ⟨_, rfl⟩
          have hx : T.getD (s + (k + 1)) 0 = x := by rw [← hxD]; exact P3.out (by omega) k (by omega)
          obtain ⟨hx1, hx2⟩ : 48 ≤ x ∧ x ≤ 57 := by rw [← hxD]; exact P4.out k (by omega)
          have hcl : wr.cell? ⟨g1, s + (k + 1), none⟩ = some (.int .u8 x) := by rw [hbel.cell (by show g1 < S; omega), HC1.out _ (by omega), hx]
          have HS2 : Hid ((D.take k).map (Value.int .u8) ++ [.int .u8 x] = (D.take (k + 1)).map (Value.int .u8)) := take_snoc (by rw [PL.out]; omega) hxD
          have HW : Hid (wr.ownsRow S 5 1 (.slice (some ⟨S, 0, none⟩) k T.length) k ((D.take k).map (Value.int .u8))) := hown
          have HBr : Hid (Below S w1 wr) := hbel
          have hsz := hbel.size
          clear hown hbel hx hxD
          go_wp2_with (at_builtin; refine wpList_append_fits _ rfl (.tmp 54) (.tmp 59) 31 rfl S 5 i0 1 Try.underlying31 hi hz1 S k T.length _ rfl (HW.out.alloc _) ⟨wr.heap.size, 0, none⟩ 1 1 [.int .u8 x] rfl rfl (cell_one_new _ _ _) (by intro u hu; simp at hu; subst hu; rfl) (by omega) ?_; intro w4 hown4 hgrow4)
          rw [HS2.out] at hown4
          go_roundw
          case rel => exact ⟨(k + 1) + 1, k + 1, _, by omega, by go_num, rfl, rfl, .inr ⟨by omega, rfl, rfl⟩, hown4, (HBr.out.alloc (by omega) _).grown hgrow4 (by simp; omega) (by intro q h; cases h; exact Nat.le_refl _)⟩
          case measure => simp [intOf]; omega
        · have hk1 : k ≤ scale + J := by omega
          have hk2 : scale + J ≤ k := by omega
          have hne : ((T.length : Int) - 1 - ((s : Int) + (J : Int)) != (scale : Int)) = false := by rw [bne_eq_false_iff_eq]; omega
          obtain ⟨sx, vv, x0, hconv, hsh, hvv, hcx0, hx1, hx2⟩ := ending coef scale J k S T.length D wr h1 h2 (by omega) PD.out HJ.out (by omega) hown
          have HSH := hide hsh
          have HV := hide hvv
          have HBr : Hid (Below w.heap.size w wr) := HB1.out.trans (hbel.mono hw1)
          clear hown hbel hsh hvv
          by_cases hJ2 : 1 < J
          · have hx3 : (x0 == 48) = false := beq_eq_false_iff_ne.2 (by have := hx2 hJ2; omega)
            clear hx2
            go_wp2_with (first | (go_at_call 11; refine (HSH.out _).mono ?_; rintro e w6 ⟨rfl, hb6⟩) | (go_at_call 23; refine (magnitudeOf_any _ h1 h2 _).mono ?_; rintro e w7 ⟨rfl, rfl⟩))
            go_ret
            exact ⟨ret_true HV.out, HBr.out.trans (Below.mono (by assumption) HBr.out.size)⟩
          · clear hx2
            go_wp2_with (first | (go_at_call 11; refine (HSH.out _).mono ?_; rintro e w6 ⟨rfl, hb6⟩) | (go_at_call 23; refine (magnitudeOf_any _ h1 h2 _).mono ?_; rintro e w7 ⟨rfl, rfl⟩))
            go_ret
            exact ⟨ret_true HV.out, HBr.out.trans (Below.mono (by assumption) HBr.out.size)⟩
  | false =>
    have hc : 0 ≤ coef := by simpa using hneg
    clear hneg
    obtain ⟨y, hy⟩ : ∃ y, T.getD 0 0 = y := ⟨_, rfl⟩
    have hy1 : 48 ≤ y := by rw [← hy]; have := P1.out 0 (by omega); rw [show st false + 0 = 0 from rfl] at this; rw [this]; exact (P4.out 0 (by omega)).1
    have HX0 : Hid (T.getD 0 0 = y) := hy
    clear hy
    obtain ⟨s, hs1⟩ : ∃ s, st false = s := ⟨_, rfl⟩
    have HS : Hid (s = 0) := hs1.symm
    rw [hs1] at P1 P2 P3 PT
    clear hs1
    have hs1 : s ≤ 1 := by rw [HS.out]; omega
    go_enter Try.func9, Try.ntmps9
    go_wp2_with fail
    refine (A1.out _).mono ?_
    rintro e w1 ⟨v1, rfl, ho1, hg1⟩
    obtain ⟨g1, c1, rfl, hgb1, hgl1, hc1, hm1, hcell1⟩ := ho1.shape hTp
    have hc0 := hcell1 0 hTp
    rw [HX0.out] at hc0
    have HC1 : Hid (∀ j, j < T.length → w1.cell? ⟨g1, j, none⟩ = some (.int .u8 (T.getD j 0))) := hcell1
    have HB1 : Hid (Below w.heap.size w w1) := (Below.refl _ _).grown hg1 (Nat.le_refl _) (by intro k h; cases h)
    have hw1 := hg1.size
    clear ho1 hg1 hcell1 A1
    go_wp2_with (at_make; refine wpList_make_own _ rfl _ _ 31 rfl w1.heap.size 5 i0 (.int .u8 0) 1 Try.underlying31 hi hz0 hz1 _ _ _ T.length rfl rfl (by omega) (by rw [hz2]; omega) (by unfold maxLen; omega) (Nat.le_refl _) ?_; intro w3 hown3 hgrow3)
    have HN3 : Hid (w3.ownsRow w1.heap.size 5 1 (.slice (some ⟨w1.heap.size, 0, none⟩) 0 T.length) 0 []) := hown3
    have HB3 : Hid (Below w1.heap.size w1 w3) := (Below.refl _ _).grown hgrow3 (Nat.le_refl _) (by intro k h; cases h)
    clear hown3 hgrow3 hc0
    obtain ⟨S, hS⟩ : ∃ n, w1.heap.size = n := ⟨_, rfl⟩
    rw [hS] at hw1 hgl1 HN3 HB3 ⊢
    have hS3 : S ≤ w1.heap.size := by omega
    clear hS
    have hTge : s + J ≤ T.length := by rw [PT.out]; omega
    go_loopw [7, 8, 9] (fun v pt c wr => ∃ (i k : Nat) (p : Int), s + i ≤ T.length ∧ c = .int .i64 (s + i : Nat) ∧ v = .slice (some ⟨S, 0, none⟩) k T.length ∧ pt = .int .i64 p ∧ Seen s J i k p ∧ wr.ownsRow S 5 1 (.slice (some ⟨S, 0, none⟩) k T.length) k ((D.take k).map (Value.int .u8)) ∧ Below S w1 wr) (fun _ _ c _ => T.length - (intOf c).toNat)
    case atStart => exact ⟨0, 0, -1, by omega, by rw [HS.out]; rfl, rfl, rfl, .inl ⟨Nat.zero_le _, rfl, rfl⟩, HN3.out, HB3.out⟩
    case round =>
      clear HN3 HB3
      obtain ⟨i, k, p, hsi, rfl, rfl, rfl, hseen, hown, hbel⟩ := hrel
      rcases hseen with ⟨hiJ, rfl, rfl⟩ | ⟨hJi, hki, rfl⟩
      · by_cases hlt : k < J
        · obtain ⟨x, hxD⟩ : ∃ x, D.getD k 0 = x := ⟨_, rfl⟩
          have hx : T.getD (s + k) 0 = x := by rw [← hxD]; exact P1.out k hlt
          obtain ⟨hx1, hx2⟩ : 48 ≤ x ∧ x ≤ 57 := by rw [← hxD]; exact P4.out k (by omega)
          have hlt2 : s + k < T.length := by omega
          have hcl : wr.cell? ⟨g1, s + k, none⟩ = some (.int .u8 x) := by rw [hbel.cell (by show g1 < S; omega), HC1.out _ (by omega), hx]
          have HS2 : Hid ((D.take k).map (Value.int .u8) ++ [.int .u8 x] = (D.take (k + 1)).map (Value.int .u8)) := take_snoc (by rw [PL.out]; omega) hxD
          have HW : Hid (wr.ownsRow S 5 1 (.slice (some ⟨S, 0, none⟩) k T.length) k ((D.take k).map (Value.int .u8))) := hown
          have HBr : Hid (Below S w1 wr) := hbel
          have hsz := hbel.size
          clear hown hbel hx hxD
          go_wp2_with (at_builtin; refine wpList_append_fits _ rfl (.tmp 54) (.tmp 59) 31 rfl S 5 i0 1 Try.underlying31 hi hz1 S k T.length _ rfl (HW.out.alloc _) ⟨wr.heap.size, 0, none⟩ 1 1 [.int .u8 x] rfl rfl (cell_one_new _ _ _) (by intro u hu; simp at hu; subst hu; rfl) (by omega) ?_; intro w4 hown4 hgrow4)
          rw [HS2.out] at hown4
          go_roundw
          case rel => exact ⟨k + 1, k + 1, -1, by omega, by go_num, rfl, rfl, .inl ⟨by omega, rfl, rfl⟩, hown4, (HBr.out.alloc (by omega) _).grown hgrow4 (by simp; omega) (by intro q h; cases h; exact Nat.le_refl _)⟩
          case measure => simp [intOf]; omega
        · obtain rfl : k = J := by omega
          by_cases hz : scale = 0
          · have hzb : (((scale : Nat) : Int) == 0) = true := by simpa using hz
            have hTk : T.length ≤ s + k := by rw [PT.out, if_pos hz]; omega
            have hk1 : k ≤ scale + k := by omega
            have hk2 : scale + k ≤ k := by omega
            obtain ⟨J, hJk⟩ : ∃ J, J = k := ⟨_, rfl⟩
            rw [← hJk] at hJ1 hJs HJ PD PL P1 P2 P3 P4 P5 hiJ hlt hk1 hk2
            have hJk1 : J ≤ k := by omega
            have hJk2 : k ≤ J := by omega
            clear hJk hiJ hlt
            obtain ⟨sx, vv, x0, hconv, hsh, hvv, hcx0, hx1, hx2⟩ := ending coef scale J k S T.length D wr h1 h2 (by omega) PD.out HJ.out (by omega) hown
            have HSH := hide hsh
            have HV := hide hvv
            have HBr : Hid (Below w.heap.size w wr) := HB1.out.trans (hbel.mono hw1)
            clear hown hbel hsh hvv
            by_cases hJ2 : 1 < J
            · have hx3 : (x0 == 48) = false := beq_eq_false_iff_ne.2 (by have := hx2 hJ2; omega)
              clear hx2
              go_wp2_with (first | (go_at_call 11; refine (HSH.out _).mono ?_; rintro e w6 ⟨rfl, hb6⟩) | (go_at_call 23; refine (magnitudeOf_any _ h1 h2 _).mono ?_; rintro e w7 ⟨rfl, rfl⟩))
              go_ret
              exact ⟨ret_true HV.out, HBr.out.trans (Below.mono (by assumption) HBr.out.size)⟩
            · clear hx2
              go_wp2_with (first | (go_at_call 11; refine (HSH.out _).mono ?_; rintro e w6 ⟨rfl, hb6⟩) | (go_at_call 23; refine (magnitudeOf_any _ h1 h2 _).mono ?_; rintro e w7 ⟨rfl, rfl⟩))
              go_ret
              exact ⟨ret_true HV.out, HBr.out.trans (Below.mono (by assumption) HBr.out.size)⟩
          · have hzb : (((scale : Nat) : Int) == 0) = false := by simpa using hz
            have hTk : s + k < T.length := by rw [PT.out, if_neg hz]; omega
            have hcl : wr.cell? ⟨g1, s + k, none⟩ = some (.int .u8 46) := by rw [hbel.cell (by show g1 < S; omega), HC1.out _ (by omega), P2.out (by omega)]
            have HW : Hid (wr.ownsRow S 5 1 (.slice (some ⟨S, 0, none⟩) k T.length) k ((D.take k).map (Value.int .u8))) := hown
            have HBr : Hid (Below S w1 wr) := hbel
            clear hown hbel
            go_wp2
            go_roundw
            case rel => exact ⟨k + 1, k, _, by omega, by go_num, rfl, rfl, .inr ⟨by omega, rfl, by go_num⟩, HW.out, HBr.out⟩
            case measure => simp [intOf]; omega
      · subst hki
        have hz : ¬ scale = 0 := fun e => by have := PT.out; rw [if_pos e] at this; omega
        have hzb : (((scale : Nat) : Int) == 0) = false := by simpa using hz
        have hTs : T.length ≤ s + J + (scale + 1) ∧ s + J + (scale + 1) ≤ T.length := by rw [PT.out, if_neg hz]; omega
        obtain ⟨hT1, hT2⟩ := hTs
        by_cases hlt2 : s + (k + 1) < T.length
        · obtain ⟨x, hxD⟩ : ∃ x, D.getD k 0 = x := ⟨_, rfl⟩
          have hx : T.getD (s + (k + 1)) 0 = x := by rw [← hxD]; exact P3.out (by omega) k (by omega)
          obtain ⟨hx1, hx2⟩ : 48 ≤ x ∧ x ≤ 57 := by rw [← hxD]; exact P4.out k (by omega)
          have hcl : wr.cell? ⟨g1, s + (k + 1), none⟩ = some (.int .u8 x) := by rw [hbel.cell (by show g1 < S; omega), HC1.out _ (by omega), hx]
          have HS2 : Hid ((D.take k).map (Value.int .u8) ++ [.int .u8 x] = (D.take (k + 1)).map (Value.int .u8)) := take_snoc (by rw [PL.out]; omega) hxD
          have HW : Hid (wr.ownsRow S 5 1 (.slice (some ⟨S, 0, none⟩) k T.length) k ((D.take k).map (Value.int .u8))) := hown
          have HBr : Hid (Below S w1 wr) := hbel
          have hsz := hbel.size
          clear hown hbel hx hxD
          go_wp2_with (at_builtin; refine wpList_append_fits _ rfl (.tmp 54) (.tmp 59) 31 rfl S 5 i0 1 Try.underlying31 hi hz1 S k T.length _ rfl (HW.out.alloc _) ⟨wr.heap.size, 0, none⟩ 1 1 [.int .u8 x] rfl rfl (cell_one_new _ _ _) (by intro u hu; simp at hu; subst hu; rfl) (by omega) ?_; intro w4 hown4 hgrow4)
          rw [HS2.out] at hown4
          go_roundw
          case rel => exact ⟨(k + 1) + 1, k + 1, _, by omega, by go_num, rfl, rfl, .inr ⟨by omega, rfl, rfl⟩, hown4, (HBr.out.alloc (by omega) _).grown hgrow4 (by simp; omega) (by intro q h; cases h; exact Nat.le_refl _)⟩
          case measure => simp [intOf]; omega
        · have hk1 : k ≤ scale + J := by omega
          have hk2 : scale + J ≤ k := by omega
          have hne : ((T.length : Int) - 1 - ((s : Int) + (J : Int)) != (scale : Int)) = false := by rw [bne_eq_false_iff_eq]; omega
          obtain ⟨sx, vv, x0, hconv, hsh, hvv, hcx0, hx1, hx2⟩ := ending coef scale J k S T.length D wr h1 h2 (by omega) PD.out HJ.out (by omega) hown
          have HSH := hide hsh
          have HV := hide hvv
          have HBr : Hid (Below w.heap.size w wr) := HB1.out.trans (hbel.mono hw1)
          clear hown hbel hsh hvv
          by_cases hJ2 : 1 < J
          · have hx3 : (x0 == 48) = false := beq_eq_false_iff_ne.2 (by have := hx2 hJ2; omega)
            clear hx2
            go_wp2_with (first | (go_at_call 11; refine (HSH.out _).mono ?_; rintro e w6 ⟨rfl, hb6⟩) | (go_at_call 23; refine (magnitudeOf_any _ h1 h2 _).mono ?_; rintro e w7 ⟨rfl, rfl⟩))
            go_ret
            exact ⟨ret_true HV.out, HBr.out.trans (Below.mono (by assumption) HBr.out.size)⟩
          · clear hx2
            go_wp2_with (first | (go_at_call 11; refine (HSH.out _).mono ?_; rintro e w6 ⟨rfl, hb6⟩) | (go_at_call 23; refine (magnitudeOf_any _ h1 h2 _).mono ?_; rintro e w7 ⟨rfl, rfl⟩))
            go_ret
            exact ⟨ret_true HV.out, HBr.out.trans (Below.mono (by assumption) HBr.out.size)⟩
end Go.Proofs.Qxb6603093a.fnDecimalAppendToReadsBackByDigitsAt
