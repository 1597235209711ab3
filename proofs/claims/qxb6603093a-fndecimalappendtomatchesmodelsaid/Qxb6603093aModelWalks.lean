/-
  The walk of 'FnDecimalAppendToMatchesModel' (function 7).
-/
import Derived.Test.Qxb6603093aModel
import Derived.Test.Qxb6603093aClone
import Derived.Test.Qxb6603093aZeroWalks
namespace Go.Proofs.Qxb6603093a.fnDecimalAppendToMatchesModel
open Go.RowKit Go.PlainAid Dec Byt Mdl

theorem bytes_any (c s : Int) (a : Option Addr) (n cap : Nat) (hn : n ≤ maxLen) (w : World) :
    Calls Try.prog 18 #[.int .i64 c, .int .i64 s, .slice a n cap] w fun e w' => e = .returned (.bool (decide ((n : Int) ≤ 1048576))) ∧ w' = w := by
  unfold maxLen at hn
  by_cases h : (n : Int) ≤ 1048576
  all_goals
    go_enter Try.func18, Try.ntmps18
    go_wp2
    go_ret
    exact ⟨by simp [h], rfl⟩

/-- What 'cloneBytes' gives, nil or not: a slice that owns the bytes l; the walk's view of it. -/
def Cloned (w w' : World) (v : Value) (l : List Int) (n : Nat) : Prop :=
  ∃ a c, v = .slice a n c ∧ w'.ownsRow w.heap.size 5 1 v n (l.map (Value.int .u8)) ∧ w.grownBy w' none ∧ (0 < n → ∃ g, a = some ⟨g, 0, none⟩ ∧ g < w'.heap.size ∧ ∀ j, j < n → w'.cell? ⟨g, j, none⟩ = some (.int .u8 (l.getD j 0)))

theorem own_view {w' : World} {base n c : Nat} {g : Nat} {l : List Int} (hl : l.length = n) (h : w'.ownsRow base 5 1 (.slice (some ⟨g, 0, none⟩) n c) n (l.map (Value.int .u8))) : ∀ j, j < n → w'.cell? ⟨g, j, none⟩ = some (.int .u8 (l.getD j 0)) := fun j hj => by
  rw [h.cellAt j (by omega)]
  simp [hl, hj]

theorem row_below {w w' : World} {base B n : Nat} {v : Value} {xs : List Value} (h : w.ownsRow base 5 1 v n xs) (hb : Below B w w') (hB : w.heap.size ≤ B) : w'.ownsRow base 5 1 v n xs := by
  have hlt := h.lt
  obtain ⟨h1, h2⟩ := h
  refine ⟨h1, ?_⟩
  rcases h2 with h2 | ⟨g, cap, cur, rfl, hg, hh, r⟩
  · exact .inl h2
  · exact .inr ⟨g, cap, cur, rfl, hg, by rw [hb.block g (by have := (hlt g rfl).2; omega)]; exact hh, r⟩

/-- The end: the printed row and the built row are compared. -/
theorem fin {w1 w4 w5 : World} {b S n cap : Nat} {v1 v5 : Value} {l T : List Int} (hl : l.length = n) (hTp : 0 < T.length) (hTl : T.length ≤ 100) (hn : n ≤ 1048576) (ho1 : w1.ownsRow b 5 1 v1 n (l.map (Value.int .u8))) (hS : w1.heap.size = S)
    (hg : w4.grownBy w5 v1.ownBlock) (ho4 : w4.ownsRow S 5 1 (.slice (some ⟨S, 0, none⟩) (n + T.length) cap) (n + T.length) (l.map (Value.int .u8) ++ T.map (Value.int .u8)))
    (ho5 : w5.ownsRow b 5 1 v5 (n + T.length) (l.map (Value.int .u8) ++ T.map (Value.int .u8))) :
    Calls Try.prog 22 #[v5, .slice (some ⟨S, 0, none⟩) (n + T.length) cap] w5 fun e w' => e = .returned (.bool true) ∧ ∃ q, w' = w5.drewN q := by
  have hlen : (l ++ T).length = n + T.length := by simp [hl]
  rw [← List.map_append] at ho4 ho5
  have ho4' : w5.ownsRow S 5 1 (.slice (some ⟨S, 0, none⟩) (n + T.length) cap) (n + T.length) ((l ++ T).map (Value.int .u8)) := by
    refine World.ownsRow.kept ho4 hg (.inr fun e => ?_)
    have := (ho1.lt S e.symm).2
    omega
  have ho5' : Owns w5 b v5 (l ++ T) := by unfold Owns; rw [hlen]; exact ho5
  obtain ⟨g, c, rfl, _, _, _, _, hc⟩ := ho5'.shape (by omega)
  rw [hlen] at hc ⊢
  exact same_any (l ++ T) (n + T.length) g c S cap w5 (by omega) hc (own_view hlen ho4')

set_option maxHeartbeats 1000000 in
theorem main_walk (coef : Int) (scale : Nat) (hs : scale ≤ 18) (h1 : -9223372036854775808 ≤ coef) (h2 : coef ≤ 9223372036854775807) (a : Option Addr) (n cap : Nat) (l : List Int) (hl : l.length = n) (hn : n ≤ 1048576) (w : World)
    (hclone : Calls Try.prog 19 #[.slice a n cap] w fun e w' => ∃ v, e = .returned v ∧ Cloned w w' v l n) :
    Calls Try.prog 7 #[.int .i64 coef, .int .i64 (scale : Int), .slice a n cap] w fun e w' => e = .returned (.bool true) ∧ Below w.heap.size w w' := by
  obtain ⟨J, hJ, hJs⟩ := len_of coef scale h1 h2 hs
  have hJ1 := hJ.1
  have hTl := fnDecimalAppendToTrailingZero.txt_le (decide (coef < 0)) coef.natAbs scale J
  have hTp := fnDecimalAppendToTrailingZero.txt_pos (neg := decide (coef < 0)) hJ
  have HM : Hid (∀ (base S n cap : Nat) (xs : List Value) (w : World), w.ownsRow base 5 1 (.slice (some ⟨S, 0, none⟩) n cap) n xs → n + 24 ≤ cap → Calls Try.prog 20 #[.slice (some ⟨S, 0, none⟩) n cap, .int .i64 coef, .int .i64 (scale : Int)] w fun e w' => e = .returned (.slice (some ⟨S, 0, none⟩) (n + (txt (decide (coef < 0)) coef.natAbs scale J).length) cap) ∧ w'.ownsRow base 5 1 (.slice (some ⟨S, 0, none⟩) (n + (txt (decide (coef < 0)) coef.natAbs scale J).length) cap) (n + (txt (decide (coef < 0)) coef.natAbs scale J).length) (xs ++ (txt (decide (coef < 0)) coef.natAbs scale J).map (Value.int .u8)) ∧ w.grownBy w' (some S)) :=
    fun base S n cap xs w ho hr => model_any coef scale J h1 h2 hs hJ hJs base S n cap xs w ho hr _ rfl
  have HA : Hid (∀ (base n : Nat) (xs : List Value) (v : Value) (w : World), w.ownsRow base 5 1 v n xs → base ≤ w.heap.size → n ≤ 1099511627776 → Calls Try.prog 21 #[.int .i64 coef, .int .i64 (scale : Int), v] w fun e w' => ∃ v', e = .returned v' ∧ w'.ownsRow base 5 1 v' (n + (txt (decide (coef < 0)) coef.natAbs scale J).length) (xs ++ (txt (decide (coef < 0)) coef.natAbs scale J).map (Value.int .u8)) ∧ w.grownBy w' v.ownBlock) :=
    fun base n xs v w ho hb hn => shim_any coef scale J base n xs v w h1 h2 hs hJ hJs ho hb hn
  clear hJ
  generalize txt (decide (coef < 0)) coef.natAbs scale J = T at *
  have hd : decide ((n : Int) ≤ 1048576) = true := by simp; omega
  have HC := hide hclone
  have HL := hide hl
  clear hclone hl
  obtain ⟨i0, hi, hz0, hz1, hz2⟩ := info_parts Dec.Try.info5
  go_enter Try.func7, Try.ntmps7
  go_wp2_with (first | (go_at_call 18; refine (bytes_any _ _ _ _ _ (by unfold maxLen; omega) _).mono ?_; rintro e w' ⟨rfl, hw'⟩; obtain rfl := hw'.symm; rw [hd]) | (go_at_call 19; refine (unhide HC).mono ?_; rintro e w1 ⟨v1, rfl, a1, c1, rfl, ho1, hg1, hv1⟩; have HO1 := hide ho1; have HG1 := hide hg1; have HV1 := hide hv1; have hw1 := hg1.size; clear ho1 hg1 hv1) | (at_make; refine wpList_make_own _ rfl _ _ 31 rfl w1.heap.size 5 i0 (.int .u8 0) 1 Try.underlying31 hi hz0 hz1 _ _ _ (n + 24) rfl rfl (by omega) (by rw [hz2]; omega) (by unfold maxLen; omega) (Nat.le_refl _) ?_; intro w3 hown3 hgrow3; have HN3 := hide hown3; have HG3 := hide hgrow3; clear hown3 hgrow3))
  obtain ⟨S, hS⟩ : ∃ m, w1.heap.size = m := ⟨_, rfl⟩
  have HS := hide hS
  rw [hS] at hw1 HN3 ⊢
  have hS3 : S ≤ w1.heap.size := by omega
  have HB3 : Hid (Below S w1 w3) := by have := unhide HG3; rw [← hS]; exact (Below.refl _ _).grown this (Nat.le_refl _) (by intro k h; cases h)
  clear hS HG3
  go_loopw [7, 8] (fun v c wr => ∃ k : Nat, k ≤ n ∧ c = .int .i64 k ∧ v = .slice (some ⟨S, 0, none⟩) k (n + 24) ∧ wr.ownsRow S 5 1 (.slice (some ⟨S, 0, none⟩) k (n + 24)) k ((l.take k).map (Value.int .u8)) ∧ Below S w1 wr) (fun _ c _ => n - (intOf c).toNat)
  case atStart => exact ⟨0, Nat.zero_le _, rfl, rfl, unhide HN3, HB3.out⟩
  case round =>
    clear HN3 HB3
    obtain ⟨k, hk, rfl, rfl, hown, hbel⟩ := hrel
    by_cases hlt : k < n
    · obtain ⟨x, hx⟩ : ∃ x, l.getD k 0 = x := ⟨_, rfl⟩
      obtain ⟨g, rfl, hg, hcc⟩ := unhide HV1 (by omega)
      have hcl : wr.cell? ⟨g, k, none⟩ = some (.int .u8 x) := by rw [hbel.cell (by show g < S; have := unhide HS; omega), hcc k hlt, hx]
      have HS2 := hide (fnDecimalAppendToReadsBackByDigitsAt.take_snoc (T := l) (by rw [unhide HL]; exact hlt) hx)
      have HW := hide hown
      have HBr := hide hbel
      have hsz := hbel.size
      clear hown hbel hx hcc HV1
      go_wp2_with (at_builtin; refine wpList_append_fits _ rfl (.tmp 36) (.tmp 41) 31 rfl S 5 i0 1 Try.underlying31 hi hz1 S k (n + 24) _ rfl ((unhide HW).alloc _) ⟨wr.heap.size, 0, none⟩ 1 1 [.int .u8 x] rfl rfl (cell_one_new _ _ _) (by intro u hu; simp at hu; subst hu; rfl) (by omega) ?_; intro w4 hown4 hgrow4)
      rw [unhide HS2] at hown4
      go_roundw
      case rel => exact ⟨k + 1, by omega, by go_num, rfl, hown4, ((unhide HBr).alloc (by omega) _).grown hgrow4 (by simp; omega) (by intro q h; cases h; exact Nat.le_refl _)⟩
      case measure => simp [intOf]; omega
    · obtain rfl : k = n := by omega
      rw [List.take_of_length_le (by rw [unhide HL]; omega)] at hown
      have HW := hide hown
      have HBr := hide hbel
      have hsz := hbel.size
      clear hown hbel HV1
      go_wp2_with fail
      refine (HM.out S S k (k + 24) _ _ (unhide HW) (Nat.le_refl _)).mono ?_
      rintro e w4 ⟨rfl, ho4, hg4⟩
      have HO4 := hide ho4
      have HB4 : Hid (Below S w1 w4) := (unhide HBr).grown hg4 (by omega) (by intro q h; cases h; exact Nat.le_refl _)
      have hw4 := hg4.size
      clear ho4 hg4
      go_wp2_with fail
      refine (HA.out w.heap.size k _ _ _ (row_below (unhide HO1) HB4.out (by have := unhide HS; omega)) (by omega) (by omega)).mono ?_
      rintro e w5 ⟨v5, rfl, ho5, hg5⟩
      have HF := hide (fin (unhide HL) hTp (by omega) hn (unhide HO1) (unhide HS) hg5 (unhide HO4) ho5)
      have HB5 : Hid (Below w.heap.size w w5) := by
        have b1 : Below w.heap.size w w1 := (Below.refl _ _).grown (unhide HG1) (Nat.le_refl _) (by intro k h; cases h)
        exact ((b1.trans (HB4.out.mono hw1))).grown hg5 (by omega) (fun q h => ((unhide HO1).lt q h).1)
      clear ho5 hg5
      go_wp2_with fail
      refine (unhide HF).mono ?_
      rintro e w6 ⟨rfl, q, rfl⟩
      have HB6 := hide (fnDecimalAppendToTrailingZero.below_drewN HB5.out q)
      clear HF
      go_wp2
      go_ret
      exact ⟨rfl, unhide HB6⟩
end Go.Proofs.Qxb6603093a.fnDecimalAppendToMatchesModel
