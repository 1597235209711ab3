/-
  Plain: float64s that stand for k / 2^32, k a whole number below 2^32: how they are written, read, compared and subtracted. Over the model's own 'Ieee'. No Go in sight.
-/
import Ieee.Arith
namespace Go.Proofs.Qxb6600810a.Dy
open Ieee

theorem fb : double.fractionBits = 52 := rfl
theorem lp : double.leastPlace = -1074 := by decide
theorem bin : double.binade = 2 ^ 52 := rfl
theorem inf : double.infRung = 2047 * 2 ^ 52 := by decide
theorem sw : double.signWeight = 2 ^ 63 := rfl

theorem cut_zero (neg : Bool) (n : Nat) : Toward.even.cut neg n 0 = n := by
  simp [Toward.cut, Nat.mod_one]
theorem cut_exact (neg : Bool) (q d : Nat) (h : d ≤ (q * 2 ^ d).log2 + 2) : Toward.even.cut neg (q * 2 ^ d) d = q := by
  have hp : 0 < 2 ^ d := Nat.two_pow_pos _
  simp only [Toward.cut]
  rw [Nat.min_eq_left h, Nat.one_shiftLeft, Nat.mul_div_cancel _ hp, Nat.mul_mod_left]
  simp

theorem log2_mul (k a : Nat) (hk : k ≠ 0) : (k * 2 ^ a).log2 = k.log2 + a := by
  have hp : 0 < 2 ^ a := Nat.two_pow_pos _
  have hne : k * 2 ^ a ≠ 0 := Nat.mul_ne_zero hk (by omega)
  apply Nat.le_antisymm
  · have h1 : (k * 2 ^ a).log2 < k.log2 + a + 1 := by
      rw [Nat.log2_lt hne, show k.log2 + a + 1 = (k.log2 + 1) + a by omega, Nat.pow_add]
      exact Nat.mul_lt_mul_of_pos_right ((Nat.log2_lt hk).1 (Nat.lt_succ_self _)) hp
    omega
  · rw [Nat.le_log2 hne, Nat.pow_add]
    exact Nat.mul_le_mul_right _ ((Nat.le_log2 hk).1 (Nat.le_refl _))

/-- The significand of k: k with its leading digit brought to place 52. -/
def sig (k : Nat) : Nat := k * 2 ^ (52 - k.log2)
theorem sig_bd (k : Nat) (hk : k ≠ 0) (h : k.log2 ≤ 52) : 2 ^ 52 ≤ sig k ∧ sig k < 2 ^ 53 := by
  have h1 : 2 ^ k.log2 ≤ k := (Nat.le_log2 hk).1 (Nat.le_refl _)
  have h2 : k < 2 ^ (k.log2 + 1) := (Nat.log2_lt hk).1 (Nat.lt_succ_self _)
  have hp : 0 < 2 ^ (52 - k.log2) := Nat.two_pow_pos _
  unfold sig
  constructor
  · have := Nat.mul_le_mul_right (2 ^ (52 - k.log2)) h1
    rw [← Nat.pow_add, show k.log2 + (52 - k.log2) = 52 by omega] at this
    exact this
  · have := Nat.mul_lt_mul_of_pos_right h2 hp
    rw [← Nat.pow_add, show k.log2 + 1 + (52 - k.log2) = 53 by omega] at this
    exact this

/-- How k * 2^p is written, however it is split. -/
theorem near (k a T : Nat) (p : Int) (hk : k ≠ 0) (h52 : k.log2 ≤ 52) (hT : (T : Int) = p + k.log2 - 52 + 1074) (hT2 : T ≤ 2000) :
    double.nearest false (k * 2 ^ a) (p - a) = T * 2 ^ 52 + sig k := by
  have hp : 0 < 2 ^ a := Nat.two_pow_pos _
  have hne : k * 2 ^ a ≠ 0 := Nat.mul_ne_zero hk (by omega)
  obtain ⟨s1, s2⟩ := sig_bd k hk h52
  unfold Format.nearest
  rw [if_neg hne, log2_mul k a hk, fb, lp, bin, inf]
  have hlast : max (p - (a : Int) + ((k.log2 + a : Nat) : Int) - ((52 : Nat) : Int)) (-1074) = (T : Int) - 1074 := by omega
  simp only [hlast]
  have hkept : Toward.even.cut false ((k * 2 ^ a) <<< (p - (a : Int) - ((T : Int) - 1074)).toNat) ((T : Int) - 1074 - (p - (a : Int))).toNat = sig k := by
    rcases Nat.lt_or_ge (52 - k.log2) a with c | c
    · rw [show (p - (a : Int) - ((T : Int) - 1074)).toNat = 0 by omega, show ((T : Int) - 1074 - (p - (a : Int))).toNat = a - (52 - k.log2) by omega, Nat.shiftLeft_zero]
      have e : k * 2 ^ a = sig k * 2 ^ (a - (52 - k.log2)) := by
        unfold sig
        rw [Nat.mul_assoc, ← Nat.pow_add]
        congr 2
        omega
      have hl := log2_mul k a hk
      rw [e] at hl ⊢
      exact cut_exact _ _ _ (by omega)
    · rw [show (p - (a : Int) - ((T : Int) - 1074)).toNat = 52 - k.log2 - a by omega, show ((T : Int) - 1074 - (p - (a : Int))).toNat = 0 by omega, cut_zero, Nat.shiftLeft_eq]
      unfold sig
      rw [Nat.mul_assoc, ← Nat.pow_add]
      congr 2
      omega
  rw [hkept, show ((T : Int) - 1074 - -1074).toNat = T by omega]
  unfold Format.word
  rw [if_neg (by decide), Nat.min_eq_left]
  omega
/-- And how that word reads. -/
theorem read_near (T M : Nat) (h1 : 2 ^ 52 ≤ M) (h2 : M < 2 ^ 53) (hT : T ≤ 2000) : double.read (T * 2 ^ 52 + M) = .number false M ((T : Int) - 1074) := by
  unfold Format.read
  rw [sw, bin, inf, lp]
  have e1 : (T * 2 ^ 52 + M) / 2 ^ 63 = 0 := Nat.div_eq_of_lt (by omega)
  have e2 : (T * 2 ^ 52 + M) % 2 ^ 63 = T * 2 ^ 52 + M := Nat.mod_eq_of_lt (by omega)
  simp only [e1, e2]
  rw [if_neg (by omega), if_pos (by omega)]
  have e3 : (T * 2 ^ 52 + M) % 2 ^ 52 = M - 2 ^ 52 := by omega
  have e4 : (T * 2 ^ 52 + M) / 2 ^ 52 = T + 1 := by omega
  rw [e3, e4, show 2 ^ 52 + (M - 2 ^ 52) = M by omega, show (-1074 + ((T + 1 - 1 : Nat) : Int)) = (T : Int) - 1074 by omega]
  rfl
theorem read_zero : double.read 0 = .number false 0 (-1074) := by decide
theorem near_zero (p : Int) : double.nearest false 0 p = 0 := by simp [Format.nearest, Format.word]

/-- The word for k / 2^32. -/
def X (k : Nat) : Nat := double.nearest false k (-32)
/-- It stands for k / 2^32. -/
def Reads (x k : Nat) : Prop := ∃ (M : Nat) (L : Int), double.read x = .number false M L ∧ L ≤ -32 ∧ ∀ base : Int, base ≤ L → M <<< (L - base).toNat = k * 2 ^ ((-32 - base).toNat)

theorem log2_32 (k : Nat) (hk : k ≠ 0) (h : k < 2 ^ 32) : k.log2 ≤ 31 := by
  have := (Nat.log2_lt hk).2 h
  omega
theorem X_reads (k : Nat) (h : k < 2 ^ 32) : Reads (X k) k := by
  by_cases hk : k = 0
  · subst hk
    refine ⟨0, -1074, ?_, by omega, fun base _ => by simp⟩
    rw [X, near_zero, read_zero]
  · have hl := log2_32 k hk h
    have hn := near k 0 (k.log2 + 990) (-32) hk (by omega) (by omega) (by omega)
    obtain ⟨s1, s2⟩ := sig_bd k hk (by omega)
    refine ⟨sig k, ((k.log2 + 990 : Nat) : Int) - 1074, ?_, by omega, fun base hb => ?_⟩
    · rw [X, ← read_near _ _ s1 s2 (by omega), ← hn]
      simp
    · rw [Nat.shiftLeft_eq]
      unfold sig
      rw [Nat.mul_assoc, ← Nat.pow_add, show 52 - k.log2 + (((k.log2 + 990 : Nat) : Int) - 1074 - base).toNat = (-32 - base).toNat by omega]

theorem order_reads {x y a b : Nat} (hx : Reads x a) (hy : Reads y b) : double.order x y = some (compare a b) := by
  obtain ⟨M, L, h1, _, h2⟩ := hx
  obtain ⟨N, K, h3, _, h4⟩ := hy
  unfold Format.order
  rw [h1, h3]
  simp only [Datum.order, signed]
  rw [h2 (min L K) (by omega), h4 (min L K) (by omega)]
  have hp : 0 < 2 ^ ((-32 - min L K).toNat) := Nat.two_pow_pos _
  generalize 2 ^ ((-32 - min L K).toNat) = q at *
  congr 1
  simp only [Bool.false_eq_true, if_false]
  rcases Nat.lt_trichotomy a b with h | h | h
  · rw [Nat.compare_eq_lt.2 h]
    exact Int.compare_eq_lt.2 (by exact_mod_cast Nat.mul_lt_mul_of_pos_right h hp)
  · subst h
    rw [Nat.compare_eq_eq.2 rfl]
    exact Int.compare_eq_eq.2 rfl
  · rw [Nat.compare_eq_gt.2 h]
    exact Int.compare_eq_gt.2 (by exact_mod_cast Nat.mul_lt_mul_of_pos_right h hp)

/-- However k / 2^32 is split, its word is X k. -/
theorem X_split (k e : Nat) (h : k < 2 ^ 32) : double.nearest false (k * 2 ^ e) (-32 - (e : Int)) = X k := by
  by_cases hk : k = 0
  · subst hk
    rw [Nat.zero_mul, near_zero, X, near_zero]
  · have hl := log2_32 k hk h
    have hn := near k 0 (k.log2 + 990) (-32) hk (by omega) (by omega) (by omega)
    rw [near k e (k.log2 + 990) (-32) hk (by omega) (by omega) (by omega), X, ← hn]
    simp
theorem sub_reads {x y a b : Nat} (hx : Reads x a) (hy : Reads y b) (hab : b ≤ a) (ha : a < 2 ^ 32) : double.sub x y = some (X (a - b)) := by
  obtain ⟨M, L, h1, h5, h2⟩ := hx
  obtain ⟨N, K, h3, h6, h4⟩ := hy
  unfold Format.sub
  rw [h1, h3]
  simp only [Datum.opposite, Datum.sum, signed, Bool.not_false]
  rw [h2 (min L K) (by omega), h4 (min L K) (by omega)]
  obtain ⟨e, he⟩ : ∃ e, (-32 - min L K).toNat = e := ⟨_, rfl⟩
  have hbase : min L K = -32 - (e : Int) := by omega
  rw [he, hbase]
  have hle : b * 2 ^ e ≤ a * 2 ^ e := Nat.mul_le_mul_right _ hab
  have htot : ((a * 2 ^ e : Nat) : Int) + -((b * 2 ^ e : Nat) : Int) = (((a - b) * 2 ^ e : Nat) : Int) := by
    rw [Nat.sub_mul]
    omega
  simp only [Bool.false_eq_true, if_false, if_true]
  rw [htot]
  simp only [Option.map_some, Format.write]
  rw [Int.natAbs_natCast, ← X_split (a - b) e (by omega)]
  have hneg : (if (((a - b) * 2 ^ e : Nat) : Int) = 0 then false && true else decide ((((a - b) * 2 ^ e : Nat) : Int) < 0)) = false := by
    split
    · rfl
    · exact decide_eq_false (by omega)
  rw [hneg]

theorem read_div : double.read 4751297606875873280 = .number false (2 ^ 52) (-20) := by decide
/-- 'float64(n) / 4294967296'. -/
theorem div_int (n : Nat) (h : n < 2 ^ 32) : double.div (double.nearest false n 0) 4751297606875873280 = some (X n) := by
  by_cases hn0 : n = 0
  · subst hn0
    rw [near_zero]
    unfold Format.div
    rw [read_zero, read_div]
    simp only [Datum.quotient, fb]
    rw [if_neg (by decide)]
    simp only [Nat.zero_shiftLeft, Nat.zero_div, Nat.zero_mod, Option.map_some, Format.write]
    simp [near_zero, X]
  · have hl := log2_32 n hn0 h
    have hn := near n 0 (n.log2 + 1022) 0 hn0 (by omega) (by omega) (by omega)
    obtain ⟨s1, s2⟩ := sig_bd n hn0 (by omega)
    have hs0 : sig n ≠ 0 := by omega
    have hlog : (sig n).log2 = 52 := by
      unfold sig
      rw [log2_mul n _ hn0]
      omega
    unfold Format.div
    rw [show double.nearest false n 0 = (n.log2 + 1022) * 2 ^ 52 + sig n by rw [← hn]; simp, read_near _ _ s1 s2 (by omega), read_div]
    simp only [Datum.quotient, fb]
    rw [if_neg (by decide), hlog, show (2 ^ 52 : Nat).log2 = 52 by decide, show 52 + 2 + 52 - 52 = 54 by omega]
    rw [Nat.shiftLeft_eq, show sig n * 2 ^ 54 = (sig n * 4) * 2 ^ 52 by rw [Nat.mul_assoc], Nat.mul_div_cancel _ (Nat.two_pow_pos _), Nat.mul_mod_left]
    simp only [Option.map_some, Format.write, bne_self_eq_false, Bool.toNat_false, Nat.add_zero]
    have e1 : 2 * (sig n * 4) = n * 2 ^ (52 - n.log2 + 3) := by
      unfold sig
      rw [Nat.pow_add, ← Nat.mul_assoc n]
      generalize n * 2 ^ (52 - n.log2) = q
      omega
    rw [e1, ← X_split n (52 - n.log2 + 3) h, show (((n.log2 + 1022 : Nat) : Int) - 1074 - -20 - ((54 : Nat) : Int) - 1) = -32 - ((52 - n.log2 + 3 : Nat) : Int) by omega]
/-- The tests that kindOf makes. -/
theorem lt_reads {x y a b : Nat} (hx : Reads x a) (hy : Reads y b) : (double.order x y == some .lt) = decide (a < b) := by
  rw [order_reads hx hy]
  rcases Nat.lt_trichotomy a b with h | h | h
  · rw [Nat.compare_eq_lt.2 h, decide_eq_true h]; rfl
  · rw [Nat.compare_eq_eq.2 h, decide_eq_false (by omega)]; rfl
  · rw [Nat.compare_eq_gt.2 h, decide_eq_false (by omega)]; rfl
theorem zero_reads : Reads 0 0 := by have := X_reads 0 (by omega); rw [X, near_zero] at this; exact this
theorem eq_zero_reads {x a : Nat} (hx : Reads x a) : (double.order x 0 == some .eq) = decide (a = 0) := by
  rw [order_reads hx zero_reads]
  rcases Nat.eq_zero_or_pos a with h | h
  · rw [Nat.compare_eq_eq.2 h, decide_eq_true h]; rfl
  · rw [Nat.compare_eq_gt.2 h, decide_eq_false (by omega)]; rfl
end Go.Proofs.Qxb6600810a.Dy
