/-
  The walk of kindModel (function 7).
-/
import Derived.Test.Qxb6600810aExact
namespace Go.Proofs.Qxb6600810a.Exact
open Go.RowKit Go.PlainAid Kind

theorem cells_n (N : Nat → Nat) (w : World) (o : Obj) (j : Nat) (hj : j < 5) : ((w.alloc (.cells #[.int .u32 (N 0 : Nat), .int .u32 (N 1 : Nat), .int .u32 (N 2 : Nat), .int .u32 (N 3 : Nat), .int .u32 (N 4 : Nat)] 23)).alloc o).cell? ⟨w.heap.size, j, none⟩ = some (.int .u32 (N j : Nat)) := by
  rw [World.cell?_alloc_past _ _ _ (by simp), World.cell?_alloc_at _ _ _ _ rfl]
  match j, hj with
  | 0, _ => rfl
  | 1, _ => rfl
  | 2, _ => rfl
  | 3, _ => rfl
  | 4, _ => rfl
theorem cells_c (N : Nat → Nat) (w : World) (o : Obj) (j : Nat) (hj : j < 5) : ((w.alloc o).alloc (.cells #[.int .u64 (N 0 : Nat), .int .u64 ((N 0 : Nat) + (N 1 : Nat) : Int), .int .u64 ((N 0 : Nat) + (N 1 : Nat) + (N 2 : Nat) : Int), .int .u64 ((N 0 : Nat) + (N 1 : Nat) + (N 2 : Nat) + (N 3 : Nat) : Int), .int .u64 ((N 0 : Nat) + (N 1 : Nat) + (N 2 : Nat) + (N 3 : Nat) + (N 4 : Nat) : Int)] 37)).cell? ⟨w.heap.size + 1, j, none⟩ = some (.int .u64 (run N (j + 1) : Nat)) := by
  rw [World.cell?_alloc_at _ _ _ _ (by simp)]
  match j, hj with
  | 0, _ => simp [run]
  | 1, _ => simp [run]
  | 2, _ => simp [run]
  | 3, _ => simp [run]
  | 4, _ => simp [run]
theorem run_le (N : Nat → Nat) (hN : ∀ i, N i < 2 ^ 32) (j : Nat) : run N j ≤ j * 2 ^ 32 := by
  induction j with
  | zero => exact Nat.zero_le _
  | succ n ih => have := hN n; rw [run_succ]; omega

set_option maxHeartbeats 400000 in
theorem model_walk (N : Nat → Nat) (m : Nat) (hN : ∀ i, N i < 2 ^ 32) (hm : m < 2 ^ 32) (w : World) :
    Calls Try.prog 7 #[.agg #[.int .u32 (N 0 : Nat), .int .u32 (N 1 : Nat), .int .u32 (N 2 : Nat), .int .u32 (N 3 : Nat), .int .u32 (N 4 : Nat)], .int .u32 (m : Int)] w fun e w' => ∃ k : Nat, e = .returned (.int .i64 (k : Int)) ∧ IsKind N m k ∧ Below w.heap.size w w' := by
  have h0 := hN 0
  have h1 := hN 1
  have h2 := hN 2
  have h3 := hN 3
  have h4 := hN 4
  have hrl := run_le N hN
  have HRL := hide hrl
  have HN := hide hN
  clear hN hrl
  go_enter Try.func7, Try.ntmps7
  go_wp2
  go_rounds 6
  have HC1 := hide (cells_n N w (.cells #[.int .u64 (N 0 : Nat), .int .u64 ((N 0 : Nat) + (N 1 : Nat) : Int), .int .u64 ((N 0 : Nat) + (N 1 : Nat) + (N 2 : Nat) : Int), .int .u64 ((N 0 : Nat) + (N 1 : Nat) + (N 2 : Nat) + (N 3 : Nat) : Int), .int .u64 ((N 0 : Nat) + (N 1 : Nat) + (N 2 : Nat) + (N 3 : Nat) + (N 4 : Nat) : Int)] 37))
  have HC2 := hide (cells_c N w (.cells #[.int .u32 (N 0 : Nat), .int .u32 (N 1 : Nat), .int .u32 (N 2 : Nat), .int .u32 (N 3 : Nat), .int .u32 (N 4 : Nat)] 23))
  have HB := hide (((Below.refl _ w).alloc (Nat.le_refl _) (.cells #[.int .u32 (N 0 : Nat), .int .u32 (N 1 : Nat), .int .u32 (N 2 : Nat), .int .u32 (N 3 : Nat), .int .u32 (N 4 : Nat)] 23)).alloc (by simp) (.cells #[.int .u64 (N 0 : Nat), .int .u64 ((N 0 : Nat) + (N 1 : Nat) : Int), .int .u64 ((N 0 : Nat) + (N 1 : Nat) + (N 2 : Nat) : Int), .int .u64 ((N 0 : Nat) + (N 1 : Nat) + (N 2 : Nat) + (N 3 : Nat) : Int), .int .u64 ((N 0 : Nat) + (N 1 : Nat) + (N 2 : Nat) + (N 3 : Nat) + (N 4 : Nat) : Int)] 37))
  generalize ((w.alloc (Obj.cells #[Value.int .u32 (N 0 : Nat), Value.int .u32 (N 1 : Nat), Value.int .u32 (N 2 : Nat), Value.int .u32 (N 3 : Nat), Value.int .u32 (N 4 : Nat)] 23)).alloc (Obj.cells #[Value.int .u64 (N 0 : Nat), Value.int .u64 ((N 0 : Nat) + (N 1 : Nat) : Int), Value.int .u64 ((N 0 : Nat) + (N 1 : Nat) + (N 2 : Nat) : Int), Value.int .u64 ((N 0 : Nat) + (N 1 : Nat) + (N 2 : Nat) + (N 3 : Nat) : Int), Value.int .u64 ((N 0 : Nat) + (N 1 : Nat) + (N 2 : Nat) + (N 3 : Nat) + (N 4 : Nat) : Int)] 37)) = W2 at *
  go_loop [8] (fun i => ∃ k : Nat, k ≤ 5 ∧ i = .int .i64 k ∧ ∀ i, i < k → run N (i + 1) ≤ m) (fun i => 5 - (intOf i).toNat)
  case atStart => exact ⟨0, Nat.zero_le _, rfl, fun i hi => by omega⟩
  case round =>
    obtain ⟨k, hk, rfl, ha⟩ := hrel
    have HA := hide ha
    clear ha
    by_cases hk5 : k < 5
    · have hc := unhide HC2 k hk5
      obtain ⟨x, hx⟩ : ∃ x, run N (k + 1) = x := ⟨_, rfl⟩
      have hxl : x ≤ 21474836480 := by rw [← hx]; have := unhide HRL (k + 1); omega
      rw [hx] at hc
      have HX := hide hx
      clear hx
      by_cases hlt : m < x
      · have HK : Hid (IsKind N m k) := .inl ⟨hk5, by rw [unhide HX]; exact hlt, unhide HA⟩
        go_wp2
        go_ret
        exact ⟨k, rfl, HK.out, unhide HB⟩
      · go_wp2
        go_round
        case rel => exact ⟨k + 1, by omega, by go_num, fun i hi => by
          rcases Nat.lt_or_ge i k with c | c
          · exact unhide HA i c
          · rw [show i = k by omega, unhide HX]; omega⟩
        case measure => simp [intOf]; omega
    · obtain rfl : k = 5 := by omega
      go_wp2
      go_loop [9] (fun i => ∃ j : Nat, j ≤ 5 ∧ i = .int .i64 ((j : Int) - 1) ∧ lastN N 5 = lastN N j) (fun i => (intOf i + 1).toNat)
      case atStart => exact ⟨5, Nat.le_refl _, rfl, rfl⟩
      case round =>
        obtain ⟨j, hj, hi0, hl⟩ := hrel
        cases j with
        | zero =>
          have hi1 : u9 = .int .i64 (-1) := hi0
          clear hi0
          subst hi1
          have HL := hide hl
          clear hl
          go_wp2
          go_ret
          exact ⟨0, rfl, .inr ⟨unhide HA, (unhide HL).symm⟩, unhide HB⟩
        | succ j =>
          have hi1 : u9 = .int .i64 (j : Int) := by rw [hi0]; go_num
          clear hi0
          subst hi1
          have hc := unhide HC1 j (by omega)
          have HS := hide (lastN_succ N j)
          have hnj := unhide HN j
          obtain ⟨x, hx⟩ : ∃ x, N j = x := ⟨_, rfl⟩
          rw [hx] at hc hnj
          have HX := hide hx
          have HL := hide hl
          clear hx hl
          by_cases h0 : x = 0
          · have hb0 : ((x : Int) != 0) = false := by rw [h0]; rfl
            have H0 := hide h0
            clear h0
            go_wp2
            go_round
            case rel => exact ⟨j, by omega, rfl, by rw [unhide HL, unhide HS, if_pos (by rw [unhide HX]; exact unhide H0)]⟩
            case measure => simp [intOf]
          · have hb0 : ((x : Int) != 0) = true := by rw [bne_iff_ne]; omega
            have H0 := hide h0
            clear h0
            go_wp2
            go_ret
            exact ⟨j, rfl, .inr ⟨unhide HA, by rw [unhide HL, unhide HS, if_neg (by rw [unhide HX]; exact unhide H0)]⟩, unhide HB⟩
end Go.Proofs.Qxb6600810a.Exact
