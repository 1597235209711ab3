/-
  The walks of 'FnDigitsAtMatchesPlaceValues' (function 3).
-/
import Derived.Test.Qxb6603093aRows
import Derived.WalkKit
import Derived.ProofKit
import Derived.OpenShut
import Derived.ShutString
import Derived.ChangeOld
import Derived.Below
import Derived.Test.Qxb6603093aPlace
namespace Go.Proofs.Qxb6603093a.fnDigitsAtMatchesPlaceValues
open Go.ChangeShapes Go.WideShapes Go.ChangeAt Go.RowKit
open Go.ChangeMaps (open_string shut_string)
open Go.PlainAid Dig
set_option linter.unusedVariables false

theorem bytes_any (s : ByteArray) (i n : Int) (hs : s.size ≤ maxLen) (w : World) :
    Calls Try.prog 10 #[.string s, .int .i64 i, .int .i64 n] w fun e w' => e = .returned (.bool (decide ((s.size : Int) ≤ 1048576))) ∧ w' = w := by
  unfold maxLen at hs
  by_cases h : (s.size : Int) ≤ 1048576
  all_goals
    go_enter Try.func10, Try.ntmps10
    go_wp2
    go_ret
    exact ⟨by simp [h], rfl⟩

theorem short_walk (s : ByteArray) (i n : Int) (hs : s.size ≤ maxLen) (hb : (s.size : Int) ≤ 1048576) (hi : 0 ≤ i) (hn : 0 ≤ n) (hin : i + n ≤ 9223372036854775807) (hlt : (s.size : Int) < i + n) (w : World) :
    Calls Try.prog 3 #[.string s, .int .i64 i, .int .i64 n] w fun e w' => e = .returned (.bool true) ∧ Below w.heap.size w w' := by
  have hs' := hs
  unfold maxLen at hs'
  have hd : decide ((s.size : Int) ≤ 1048576) = true := by simpa using hb
  go_enter Try.func3, Try.ntmps3
  go_wp2_with (first | (go_at_call 10; refine (bytes_any s i n hs _).mono ?_; rintro e w' ⟨rfl, rfl⟩; rw [hd]) | (go_at_call 11; refine (shim_short s i n hs hi hn hin hlt _).mono ?_; rintro e w' ⟨rfl, hbl⟩))
  go_ret
  exact ⟨rfl, by assumption⟩

theorem ok_at {b : Nat → Int} {n j : Nat} (h : okTo b n = true) (hj : j < n) : 48 ≤ b j ∧ b j ≤ 57 := by
  by_cases hb : 48 ≤ b j ∧ b j ≤ 57
  · exact hb
  · rw [okTo_false_of b j n hj hb] at h; cases h

theorem no_walk (s : ByteArray) (i n : Nat) (hs : s.size ≤ maxLen) (hb : (s.size : Int) ≤ 1048576) (hle : i + n ≤ s.size) (hok : okTo (bs s i) n = false) (w : World) :
    Calls Try.prog 3 #[.string s, .int .i64 i, .int .i64 n] w fun e w' => e = .returned (.bool true) ∧ Below w.heap.size w w' := by
  have hs' := hs
  unfold maxLen at hs'
  have hd : decide ((s.size : Int) ≤ 1048576) = true := by simpa using hb
  have hin : (i : Int) + n ≤ s.size := by omega
  have hsh := fun w => shim_long s i n hs hle w
  rw [← res_no hok] at hsh
  have HS : Hid (∀ w, Calls Try.prog 11 #[.string s, .int .i64 i, .int .i64 n] w fun e w' => e = Ending.returned (.tuple #[.int .i64 0, .bool false]) ∧ Below w.heap.size w w') := hsh
  have HO : Hid (okTo (bs s i) n = false) := hok
  clear hsh hok
  have hbt := get_bt s
  go_enter Try.func3, Try.ntmps3
  go_wp2_with (first | (go_at_call 10; refine (bytes_any s i n hs _).mono ?_; rintro e w' ⟨rfl, rfl⟩; rw [hd]) | (go_at_call 11; refine (HS.out _).mono ?_; rintro e w' ⟨rfl, hbl⟩))
  go_loop [9, 10] (fun v c => ∃ j : Nat, j ≤ n ∧ c = .int .i64 (i + j : Nat) ∧ v = .bool true ∧ okTo (bs s i) j = true) (fun _ c => i + n - (intOf c).toNat)
  case atStart => exact ⟨0, Nat.zero_le _, rfl, rfl, rfl⟩
  case round =>
    obtain ⟨j, hj, rfl, rfl, hoj⟩ := hrel
    have HJ : Hid (okTo (bs s i) j = true) := hoj
    clear hoj
    have hb0 := bt_nonneg s (i + j)
    have hb1 := bt_le s (i + j)
    by_cases hlt : j < n
    · have hx : i + j < s.size := by omega
      by_cases hd1 : 48 ≤ bt s (i + j)
      · by_cases hd2 : bt s (i + j) ≤ 57
        · go_wp2
          go_round
          case rel => exact ⟨j + 1, by omega, by go_num, rfl, by simp [okTo, HJ.out, bs, hd1, hd2]⟩
          case measure => simp [intOf]; omega
        · go_wp2
          go_ret
          exact ⟨rfl, by assumption⟩
      · go_wp2
        go_ret
        exact ⟨rfl, by assumption⟩
    · obtain rfl : j = n := by omega
      have := HO.out
      rw [HJ.out] at this
      cases this

theorem ret_eq {a b : Int} (h : a = b) : Ending.returned (.bool (a == b)) = .returned (.bool true) := by subst h; simp

theorem wt_step {j m r : Nat} (b : Nat → Int) (h : m + (r + 1) = j) : Value.int .i64 (wrap64 (wt b j m + wrap64 ((b r - 48) * pl m))) = .int .i64 (wt b j (m + 1)) := by
  obtain rfl : r = j - 1 - m := by omega
  rfl

theorem ok_walk (s : ByteArray) (i n : Nat) (hs : s.size ≤ maxLen) (hb : (s.size : Int) ≤ 1048576) (hle : i + n ≤ s.size) (hok : okTo (bs s i) n = true) (w : World) :
    Calls Try.prog 3 #[.string s, .int .i64 i, .int .i64 n] w fun e w' => e = .returned (.bool true) ∧ Below w.heap.size w w' := by
  have hs' := hs
  unfold maxLen at hs'
  have hd : decide ((s.size : Int) ≤ 1048576) = true := by simpa using hb
  have hin : (i : Int) + n ≤ s.size := by omega
  have hsh := fun w => shim_long s i n hs hle w
  rw [← res_ok hok] at hsh
  have HS : Hid (∀ w, Calls Try.prog 11 #[.string s, .int .i64 i, .int .i64 n] w fun e w' => e = Ending.returned (.tuple #[.int .i64 (dv (bs s i) n), .bool true]) ∧ Below w.heap.size w w') := hsh
  have HO : Hid (okTo (bs s i) n = true) := hok
  clear hsh hok
  have hbt := get_bt s
  go_enter Try.func3, Try.ntmps3
  go_wp2_with (first | (go_at_call 10; refine (bytes_any s i n hs _).mono ?_; rintro e w' ⟨rfl, rfl⟩; rw [hd]) | (go_at_call 11; refine (HS.out _).mono ?_; rintro e w' ⟨rfl, hbl⟩))
  go_loop [9, 10] (fun v c => ∃ j : Nat, j ≤ n ∧ c = .int .i64 (i + j : Nat) ∧ v = .bool true) (fun _ c => i + n - (intOf c).toNat)
  case atStart => exact ⟨0, Nat.zero_le _, rfl, rfl⟩
  case round =>
    obtain ⟨j, hj, rfl, rfl⟩ := hrel
    by_cases hlt : j < n
    · have hx : i + j < s.size := by omega
      obtain ⟨hd1, hd2⟩ : 48 ≤ bt s (i + j) ∧ bt s (i + j) ≤ 57 := ok_at (b := bs s i) HO.out hlt
      go_wp2
      go_round
      case rel => exact ⟨j + 1, by omega, by go_num, rfl⟩
      case measure => simp [intOf]; omega
    · obtain rfl : j = n := by omega
      go_wp2
      go_loop [11, 12, 13] (fun t p c => ∃ m r : Nat, m + r = j ∧ c = .int .i64 ((i : Int) + r - 1) ∧ t = .int .i64 (wt (bs s i) j m) ∧ p = .int .i64 (pl m)) (fun _ _ c => (intOf c + 1 - i).toNat)
      case atStart => exact ⟨0, j, by omega, rfl, rfl, rfl⟩
      case round =>
        obtain ⟨m, r, hmr, hc, rfl, rfl⟩ := hrel
        cases r with
        | zero =>
          obtain rfl : m = j := by omega
          have hc' : u13 = .int .i64 ((i : Int) - 1) := by rw [hc]; simp
          clear hc
          subst hc'
          go_wp2
          go_ret
          exact ⟨ret_eq (dv_wt _ _), by assumption⟩
        | succ r =>
          have hc' : u13 = .int .i64 (i + r : Nat) := by rw [hc]; go_num
          clear hc
          subst hc'
          have hx : i + r < s.size := by omega
          obtain ⟨hd1, hd2⟩ : 48 ≤ bt s (i + r) ∧ bt s (i + r) ≤ 57 := ok_at (b := bs s i) HO.out (show r < j by omega)
          have HM : Hid (m + (r + 1) = j) := hmr
          clear hmr
          go_wp2
          go_round
          case rel => exact ⟨m + 1, r, by have := HM.out; omega, rfl, wt_step _ HM.out, rfl⟩
          case measure => simp [intOf]; omega

end Go.Proofs.Qxb6603093a.fnDigitsAtMatchesPlaceValues
