/-
  The contract of 'digitsAt' (function 24) and of its shim (11): walked once, for both laws over it.
-/
import Derived.Test.Qxb6603093aRows
import Derived.WalkKit
import Derived.ProofKit
import Derived.PlainAid
import Derived.Handy
import Derived.Laws.IdiomStrings
namespace Go.Proofs.Qxb6603093a.Dig
open Go.RowKit Go.PlainAid

/-- The Horner value of the first k bytes, wrapping as int does. -/
def dv (b : Nat → Int) : Nat → Int
  | 0 => 0
  | k + 1 => wrap64 (wrap64 (10 * dv b k) + (b k - 48))
/-- Are the first k bytes all digits? -/
def okTo (b : Nat → Int) : Nat → Bool
  | 0 => true
  | k + 1 => okTo b k && decide (48 ≤ b k ∧ b k ≤ 57)

theorem okTo_false_of (b : Nat → Int) (k n : Nat) (h : k < n) (hb : ¬ (48 ≤ b k ∧ b k ≤ 57)) : okTo b n = false := by
  induction n with
  | zero => omega
  | succ m ih =>
    unfold okTo
    by_cases e : k = m
    · subst e; simp [hb]
    · simp [ih (by omega)]

/-- What 'digitsAt' hands back over n bytes b. -/
def res (b : Nat → Int) (n : Nat) : Ending := if okTo b n then .returned (.tuple #[.int .i64 (dv b n), .bool true]) else .returned (.tuple #[.int .i64 0, .bool false])
theorem res_ok {b : Nat → Int} {n : Nat} (h : okTo b n = true) : Ending.returned (.tuple #[.int .i64 (dv b n), .bool true]) = res b n := by unfold res; rw [if_pos h]
theorem res_no {b : Nat → Int} {n : Nat} (h : okTo b n = false) : Ending.returned (.tuple #[.int .i64 0, .bool false]) = res b n := by unfold res; rw [if_neg (by simp [h])]
/-- The bytes of s from i on. -/
def bs (s : ByteArray) (i : Nat) : Nat → Int := fun k => bt s (i + k)
theorem bs_bd (s : ByteArray) (i k : Nat) : 0 ≤ bs s i k ∧ bs s i k ≤ 255 := ⟨bt_nonneg _ _, bt_le _ _⟩

theorem short_any (s : ByteArray) (i n : Int) (hs : s.size ≤ maxLen) (_hi : 0 ≤ i) (_hn : 0 ≤ n) (hin : i + n ≤ 9223372036854775807) (hlt : (s.size : Int) < i + n) (w : World) :
    Calls Try.prog 24 #[.string s, .int .i64 i, .int .i64 n] w fun e w' => e = .returned (.tuple #[.int .i64 0, .bool false]) ∧ Below w.heap.size w w' := by
  unfold maxLen at hs
  go_enter Try.func24, Try.ntmps24
  go_wp2
  go_ret2
  exact ⟨rfl, Below.refl _ _⟩

/-- What '[]byte(s[i:i+n])' lays. -/
theorem laid (s : ByteArray) (i n : Nat) (hle : i + n ≤ s.size) (w : World) :
    ∃ (x : ByteArray) (C : Array Value) (cap : Nat), s.extract i (i + n) = x ∧ x.size = n ∧ (∀ k, k < n → C[k]? = some (.int .u8 (bs s i k))) ∧
      (convert 9 31 (.string x)).run Try.prog w = .ok (.slice (some ⟨w.heap.size, 0, none⟩) n cap) (w.drew.alloc (.cells C 5 (C.size, C.size + 1))) := by
  have hsz : (s.extract i (i + n)).size = n := by simp [ByteArray.size_extract]; omega
  have hr := run_bytes_of_string (P := Try.prog) w 9 31 5 (s.extract i (i + n)) Try.underlying9 Try.underlying31 Try.underlying5
  rw [hsz] at hr
  refine ⟨s.extract i (i + n), _, _, rfl, hsz, ?_, hr⟩
  · intro k hk
    have h1 : k < (s.extract i (i + n)).data.size := by show k < (s.extract i (i + n)).size; omega
    rw [bytesRow_at _ _ _ h1]
    congr 2
    unfold bs bt
    rw [dif_pos (by omega)]
    have : (s.extract i (i + n)).data[k] = s[i + k] := by
      have h2 : k < (s.extract i (i + n)).size := by omega
      have := ByteArray.getElem_extract (b := s) (i := k) (start := i) (stop := i + n) (h := h2)
      exact this
    rw [this]

theorem long_any (s : ByteArray) (i n : Nat) (hs : s.size ≤ maxLen) (hle : i + n ≤ s.size) (w : World) :
    Calls Try.prog 24 #[.string s, .int .i64 i, .int .i64 n] w fun e w' => e = res (bs s i) n ∧ Below w.heap.size w w' := by
  unfold maxLen at hs
  have hin : (i : Int) + n ≤ 9223372036854775807 := by omega
  have hle' : ¬ (s.size : Int) < (i : Int) + n := by omega
  obtain ⟨x, C, cap, hx, hxs, hC, hconv⟩ := laid s i n hle w
  have hsl : ∀ w, (Instr.slice 9 (.string s) (some (.int .i64 (i : Int))) (some (.int .i64 ((i : Int) + (n : Int)))) none).run Try.prog w = .ok (.string x) w := fun w => by
    rw [run_slice_string (P := Try.prog) w 9 s .i64 .i64 _ _ Try.underlying9 (by omega) (by omega) (by omega), ← hx]; rfl
  clear hx hxs
  have hcell : ∀ k, k < n → (w.alloc (.cells C 5 (C.size, C.size + 1))).cell? ⟨w.heap.size, k, none⟩ = some (.int .u8 (bs s i k)) := fun k hk => by
    rw [World.cell?_alloc_mark, hC k hk]
  clear hC
  go_enter Try.func24, Try.ntmps24
  go_wp2
  go_loop [6, 24] (fun v c => ∃ k : Nat, k ≤ n ∧ c = .int .i64 k ∧ v = .int .i64 (dv (bs s i) k) ∧ okTo (bs s i) k = true) (fun _ c => n - (intOf c).toNat)
  case atStart => exact ⟨0, Nat.zero_le _, rfl, rfl, rfl⟩
  case round =>
    obtain ⟨k, hk, rfl, rfl, hok⟩ := hrel
    have HO : Hid (okTo (bs s i) k = true) := hok
    clear hok
    obtain ⟨hb0, hb1⟩ := bs_bd s i k
    by_cases hlt : k < n
    · have hcl := hcell k hlt
      clear hcell
      by_cases hd : 48 ≤ bs s i k
      · by_cases hd2 : bs s i k ≤ 57
        · go_wp2
          go_round
          case rel => exact ⟨k + 1, by omega, by go_num, rfl, by simp [okTo, HO.out, hd, hd2]⟩
          case measure => simp [intOf]; omega
        · go_wp2
          go_ret2
          exact ⟨res_no (okTo_false_of _ k n hlt (by omega)), ((Below.refl _ _).alloc (Nat.le_refl _) _).drew⟩
      · go_wp2
        go_ret2
        exact ⟨res_no (okTo_false_of _ k n hlt (by omega)), ((Below.refl _ _).alloc (Nat.le_refl _) _).drew⟩
    · obtain rfl : k = n := by omega
      go_wp2
      go_ret2
      exact ⟨res_ok HO.out, ((Below.refl _ _).alloc (Nat.le_refl _) _).drew⟩

/-- The shim 'ZZDigitsAt': the text lies inside. -/
theorem shim_long (s : ByteArray) (i n : Nat) (hs : s.size ≤ maxLen) (hle : i + n ≤ s.size) (w : World) :
    Calls Try.prog 11 #[.string s, .int .i64 i, .int .i64 n] w fun e w' => e = res (bs s i) n ∧ Below w.heap.size w w' := by
  cases h : okTo (bs s i) n
  all_goals
    go_enter Try.func11, Try.ntmps11
    go_wp2_with (go_at_call 24; refine (long_any s i n hs hle _).mono ?_; rintro e w' ⟨rfl, hb⟩; first | rw [← res_ok (by assumption)] | rw [← res_no (by assumption)])
    go_ret2
    first | exact ⟨res_ok (by assumption), by assumption⟩ | exact ⟨res_no (by assumption), by assumption⟩

/-- The shim 'ZZDigitsAt': the text is too short. -/
theorem shim_short (s : ByteArray) (i n : Int) (hs : s.size ≤ maxLen) (hi : 0 ≤ i) (hn : 0 ≤ n) (hin : i + n ≤ 9223372036854775807) (hlt : (s.size : Int) < i + n) (w : World) :
    Calls Try.prog 11 #[.string s, .int .i64 i, .int .i64 n] w fun e w' => e = .returned (.tuple #[.int .i64 0, .bool false]) ∧ Below w.heap.size w w' := by
  go_enter Try.func11, Try.ntmps11
  go_wp2_with (go_at_call 24; refine (short_any s i n hs hi hn hin hlt _).mono ?_; rintro e w' ⟨rfl, hb⟩)
  go_ret2
  exact ⟨rfl, by assumption⟩
end Go.Proofs.Qxb6603093a.Dig
