/-
  The walk of 'FnKindOfExactOnDyadicShares' (function 3).
-/
import Derived.Test.Qxb6600810aModel
namespace Go.Proofs.Qxb6600810a.fnKindOfExactOnDyadicShares
open Go.RowKit Go.PlainAid Kind Exact

/-- 'float64(n) / 4294967296.0'. -/
theorem quo (n : Nat) (h : n < 2 ^ 32) (w : World) : (binOp .quo 24 (.float .f64 (floatOfInt .f64 (n : Int))) (.float .f64 4751297606875873280)).run Try.prog w = .ok (.float .f64 (Dy.X n)) w := by
  refine run_float_arith w .quo 24 .f64 _ _ _ ?_
  have e : floatOfInt .f64 (n : Int) = Ieee.double.nearest false n 0 := by
    show Ieee.double.nearest (decide ((n : Int) < 0)) (n : Int).natAbs 0 = _
    rw [decide_eq_false (by omega), Int.natAbs_natCast]
  rw [e]
  exact Dy.div_int n h

/-- A store of a float into one cell: the law that the walk's own set lacks (beside run_store_int and its fellows). -/
theorem run_store_float {P : Program} (w : World) (a : Addr) (k : FloatKind) (b : Nat) (m : Mode) : (store a (.float k b) m).run P w = stored P w a (.float k b) m := run_store P w a _ m rfl
attribute [local go_sem] run_store_float

theorem ret_eq {a b : Nat} (h : a = b) : Ending.returned (.bool ((a : Int) == (b : Int))) = .returned (.bool true) := by subst h; simp

set_option maxHeartbeats 400000 in
theorem main_walk (N : Nat → Nat) (m : Nat) (hN : ∀ i, N i < 2 ^ 32) (hm : m < 2 ^ 32) (w : World) :
    Calls Try.prog 3 #[.agg #[.int .u32 (N 0 : Nat), .int .u32 (N 1 : Nat), .int .u32 (N 2 : Nat), .int .u32 (N 3 : Nat), .int .u32 (N 4 : Nat)], .int .u32 (m : Int)] w fun e w' => e = .returned (.bool true) ∧ Below w.heap.size w w' := by
  have q0 := quo (N 0) (hN 0)
  have q1 := quo (N 1) (hN 1)
  have q2 := quo (N 2) (hN 2)
  have q3 := quo (N 3) (hN 3)
  have q4 := quo (N 4) (hN 4)
  have qm := quo m hm
  have HN := hide hN
  clear hN
  go_enter Try.func3, Try.ntmps3
  go_wp2
  refine wp_loop_rounds 6 ?_
  iterate 5 (rw [rounds_succ]; go_wp2)
  rw [rounds_succ]
  go_wp2_with fail
  have HC := hide (cells_n N w (Obj.cells #[Value.float .f64 (Dy.X (N 0)), Value.float .f64 (Dy.X (N 1)), Value.float .f64 (Dy.X (N 2)), Value.float .f64 (Dy.X (N 3)), Value.float .f64 (Dy.X (N 4))] 25))
  refine (shim_dy N m (unhide HN) hm _).mono ?_
  rintro e w1 ⟨k, rfl, hk, hb⟩
  have HK := hide hk
  have c0 : w1.cell? ⟨w.heap.size, 0, none⟩ = some (.int .u32 (N 0 : Nat)) := by rw [hb.cell (by simp; omega)]; exact unhide HC 0 (by omega)
  have c1 : w1.cell? ⟨w.heap.size, 1, none⟩ = some (.int .u32 (N 1 : Nat)) := by rw [hb.cell (by simp; omega)]; exact unhide HC 1 (by omega)
  have c2 : w1.cell? ⟨w.heap.size, 2, none⟩ = some (.int .u32 (N 2 : Nat)) := by rw [hb.cell (by simp; omega)]; exact unhide HC 2 (by omega)
  have c3 : w1.cell? ⟨w.heap.size, 3, none⟩ = some (.int .u32 (N 3 : Nat)) := by rw [hb.cell (by simp; omega)]; exact unhide HC 3 (by omega)
  have c4 : w1.cell? ⟨w.heap.size, 4, none⟩ = some (.int .u32 (N 4 : Nat)) := by rw [hb.cell (by simp; omega)]; exact unhide HC 4 (by omega)
  have HB1 : Hid (Below w.heap.size w w1) := (((Below.refl _ w).alloc (Nat.le_refl _) _).alloc (by simp) _).trans (hb.mono (by simp; omega))
  have hw1 : w.heap.size ≤ w1.heap.size := HB1.out.size
  clear hk hb HC q0 q1 q2 q3 q4 qm
  go_wp2_with fail
  refine (model_walk N m (unhide HN) hm _).mono ?_
  rintro e w2 ⟨k2, rfl, hk2, hb2⟩
  have HE := hide (one_kind (unhide HK) hk2)
  have HB2 := hide (HB1.out.trans (hb2.mono hw1))
  clear hk2 hb2 c0 c1 c2 c3 c4
  go_wp2
  go_ret
  exact ⟨ret_eq (unhide HE), unhide HB2⟩
end Go.Proofs.Qxb6600810a.fnKindOfExactOnDyadicShares
