/-
  The contract of 'nthSmallest' (function 25), over a row that the caller made.
-/
import Derived.Test.Qxb6603093aInts
import Derived.Test.Qxb6603093aSort
import Derived.WalkSpells
import Derived.WalkLawsBesides
namespace Go.Proofs.Qxb6603093a.Nth
open Go.RowKit Go.PlainAid Ints
open Go.Sort (swp PermIn SortedIn size_swp permIn_refl permIn_trans swp_permIn)

/-- Go's max and min of two integers, each under a name, so that no walk parts on it. -/
def mx (x y : Int) : Int := if y > x then y else x
def mn (x y : Int) : Int := if y < x then y else x
theorem run_mx {P : Program} (w : World) (ts : Array TypeId) (t : TypeId) (k k' : IntKind) (x y : Int) : (Builtin.max_ ts t #[.int k x, .int k' y]).run P w = .ok (.int k (mx x y)) w := run_max_int2 w ts t k k' x y
theorem run_mn {P : Program} (w : World) (ts : Array TypeId) (t : TypeId) (k k' : IntKind) (x y : Int) : (Builtin.min_ ts t #[.int k x, .int k' y]).run P w = .ok (.int k (mn x y)) w := run_min_int2 w ts t k k' x y
/-- The median of three is one of them. -/
theorem med (a b c : Int) : mx (mn a b) (mn (mx a b) c) = a ∨ mx (mn a b) (mn (mx a b) c) = b ∨ mx (mn a b) (mn (mx a b) c) = c := by
  unfold mx mn
  repeat' split
  all_goals omega

theorem row_drewN {w : World} {S : Nat} {d : Array Int} (h : Row w S d) (q : Nat) : Row (w.drewN q) S d := by
  induction q with
  | zero => exact h
  | succ n ih => exact ih
theorem grown_drewN {a w : World} {r : Option Nat} (h : a.grownBy w r) (q : Nat) : a.grownBy (w.drewN q) r := by
  induction q with
  | zero => exact h
  | succ n ih => exact ⟨ih.os, ih.tape, ih.output, ih.size, ih.block⟩
theorem h26 : Try.prog.underlying 26 = some (.slice (Try.prog.elem 26)) := by kernel_rfl
theorem slice_to (S lo m n b : Nat) (h1 : b < n - lo) (_h2 : b ≤ m) (w : World) : (Instr.slice 26 (.slice (some ⟨S, lo, none⟩) m (n - lo)) none (some (.int .i64 (b : Int))) none).run Try.prog w = .ok (.slice (some ⟨S, lo, none⟩) b (n - lo)) w := by
  have h5 : (sizeOf (Try.prog.elem 26)).run Try.prog w = .ok 1 w := by kernel_rfl
  rw [run_slice_h w 26 (some ⟨S, lo, none⟩) m (n - lo) h26 .i64 _ (by omega) (by omega), h5]
  simp [sliced, Addr.add, Result.andThen]
theorem slice_from (S lo m n i : Nat) (h1 : i < m) (h2 : m ≤ n - lo) (w : World) : (Instr.slice 26 (.slice (some ⟨S, lo, none⟩) m (n - lo)) (some (.int .i64 (i : Int))) none none).run Try.prog w = .ok (.slice (some ⟨S, lo + i, none⟩) (m - i) (n - (lo + i))) w := by
  have h5 : (sizeOf (Try.prog.elem 26)).run Try.prog w = .ok 1 w := by kernel_rfl
  rw [run_slice_l w 26 (some ⟨S, lo, none⟩) m (n - lo) h26 .i64 _ (by omega) (by omega), h5]
  have : ¬ n - lo = i := by omega
  simp [sliced, Addr.add, Result.andThen, this]
  omega
/-- A slice's length. -/
def lenOf : Value → Nat | .slice _ n _ => n | _ => 0

set_option maxRecDepth 100000 in
set_option maxHeartbeats 2000000 in
theorem nth_any (S n P : Nat) (r : Int) (d0 : Array Int) (w : World) (hr : Row w S d0) (hn : d0.size = n) (hn1 : n ≤ 1048576) (hP : P < n) :
    Calls Try.prog 25 #[.slice (some ⟨S, 0, none⟩) n n, .int .i64 (P : Int), .int .i64 r] w fun e w' => ∃ (d : Array Int) (v : Int), e = .returned (.int .i64 v) ∧ Row w' S d ∧ Final d0 d P v ∧ w.grownBy w' (some S) := by
  have HR := hide hr
  have HN := hide hn
  clear hr hn
  go_enter Try.func25, Try.ntmps25
  go_wp2
  go_loopw [0, 1, 2] (fun xs at_ rd wr => ∃ (lo m q : Nat) (r : Int) (d : Array Int), lo + m ≤ n ∧ lo + q = P ∧ xs = .slice (some ⟨S, lo, none⟩) m (n - lo) ∧ at_ = .int .i64 q ∧ rd = .int .i64 r ∧ Row wr S d ∧ Outer d0 d lo (lo + m) P ∧ w.grownBy wr (some S)) (fun xs _ _ _ => lenOf xs)
  case atStart => exact ⟨0, n, P, r, d0, by omega, by omega, rfl, rfl, rfl, unhide HR, by have := Outer.start d0 P (by rw [unhide HN]; exact hP); rw [unhide HN] at this; simpa using this, World.grownBy.refl _ _⟩
  case round =>
    clear HR
    obtain ⟨lo, m, q, r, d, hlm, hq, rfl, rfl, rfl, hrow, hout, hgr⟩ := hrel
    have hds : d.size = n := by have := hout.perm.1; rw [unhide HN] at this; exact this
    have hqm : q < m := by have := hout.h2; omega
    by_cases hm1 : 1 < m
    · by_cases hr0 : r = 0
      · have hrb : (r == 0) = true := by rw [hr0]; rfl
        have HS := hide (sort_any S lo m (n - lo) d wr hrow (by omega) (by omega))
        have HOUT := hide hout
        have HGR := hide hgr
        have HDS := hide hds
        have HQ := hide hq
        clear hrow hout hgr hds hq hr0
        go_wp2_with (go_at_call 31; refine (unhide HS).mono ?_; rintro e w1 ⟨rfl, d', hr', hp', hs', hg'⟩; have hds' : d'.size = n := (by rw [hp'.1]; exact unhide HDS); have hc := hr'.cell (lo + q) (by omega); have HF : Hid (Final d0 d' P d'[lo + q]!) := (by rw [unhide HQ]; exact ((unhide HOUT).turn hp').sorted hs'); have HR' := hide hr'; have HG' := hide (grownBy_trans (unhide HGR) hg'); clear hr' hp' hs' hg' hds')
        go_ret
        exact ⟨d', d'[lo + q]!, rfl, unhide HR', HF.out, unhide HG'⟩
      · have hrb : (r == 0) = false := beq_eq_false_iff_ne.2 hr0
        have HROW := hide hrow
        have HOUT := hide hout
        have HGR := hide hgr
        have HDS := hide hds
        have HQ := hide hq
        have c0 := hrow.cell lo (by omega)
        have c1 := hrow.cell (lo + m / 2) (by omega)
        have c2 := hrow.cell (lo + (m - 1)) (by omega)
        clear hrow hout hgr hds hq hr0
        have k1 := fun (w : World) (x y : Int) => run_mx (P := Try.prog) w #[2, 2] 2 .i64 .i64 x y
        have k2 := fun (w : World) (x y : Int) => run_mn (P := Try.prog) w #[2, 2] 2 .i64 .i64 x y
        go_wp2
        go_quiet (fail)
        go_wp2
        clear k1 k2 c0 c1 c2
        generalize hp : mx (mn d[lo]! d[lo + m / 2]!) (mn (mx d[lo]! d[lo + m / 2]!) d[lo + (m - 1)]!) = p
        have HMEM : Hid (∃ j, lo ≤ j ∧ j < lo + m ∧ d[j]! = p) := by
          rw [← hp]
          rcases med d[lo]! d[lo + m / 2]! d[lo + (m - 1)]! with e | e | e
          · exact ⟨lo, by omega, by omega, e.symm⟩
          · exact ⟨lo + m / 2, by omega, by omega, e.symm⟩
          · exact ⟨lo + (m - 1), by omega, by omega, e.symm⟩
        clear hp
        go_loopw [11, 12, 13] (fun bl ix ab wi => ∃ (b i a : Nat) (d' : Array Int), b ≤ i ∧ i ≤ a ∧ a ≤ m ∧ bl = .int .i64 b ∧ ix = .int .i64 i ∧ ab = .int .i64 a ∧ Row wi S d' ∧ PInv d' lo (lo + m) p (lo + b) (lo + i) (lo + a) ∧ PermIn lo (lo + m) d d' ∧ w.grownBy wi (some S)) (fun _ ix ab _ => (intOf ab - intOf ix).toNat)
        case atStart =>
          have hs := unhide HDS
          exact ⟨0, 0, m, d, by omega, by omega, by omega, rfl, rfl, rfl, row_drewN (unhide HROW) nq, ⟨by omega, by omega, by omega, by omega, by omega, fun j a b => by omega, fun j a b => by omega, fun j a b => by omega, HMEM.out⟩, permIn_refl _ _ _, grown_drewN (unhide HGR) nq⟩
        case round =>
          clear HROW HGR
          obtain ⟨b, i, a, d', hbi, hia, ham, rfl, rfl, rfl, hrow, hinv, hperm, hgr⟩ := hrel
          have hds' : d'.size = n := by rw [hperm.1]; exact unhide HDS
          by_cases hlt : i < a
          · have ci := hrow.cell (lo + i) (by omega)
            obtain ⟨x, hx⟩ : ∃ x, d'[lo + i]! = x := ⟨_, rfl⟩
            rw [hx] at ci
            rcases Int.lt_trichotomy x p with hxp | hxp | hxp
            · have cb := hrow.cell (lo + b) (by omega)
              obtain ⟨y, hy⟩ : ∃ y, d'[lo + b]! = y := ⟨_, rfl⟩
              rw [hy] at cb
              have fb := hrow.frozen (lo + b)
              have r1 := hrow.set (lo + b) x
              have ci2 := r1.cell (lo + i) (by simp; omega)
              have fi2 := r1.frozen (lo + i)
              have HR2 : Hid (Row ((wr.setCell ⟨S, lo + b, none⟩ (.int .i64 x)).setCell ⟨S, lo + i, none⟩ (.int .i64 y)) S (swp d' (lo + b) (lo + i))) := by rw [← hx, ← hy]; exact hrow.swap (lo + b) (lo + i)
              have HI := hide (hinv.less (by omega) (by rw [hx]; exact hxp))
              have HP := hide (permIn_trans _ _ _ _ _ hperm (swp_permIn d' lo (lo + m) (lo + b) (lo + i) (by omega) (by omega) (by omega) (by omega) (by omega)))
              have HG := hide hgr
              clear hrow hinv hperm hgr hds' r1 hx hy
              go_wp2
              go_roundw
              case rel => exact ⟨b + 1, i + 1, a, _, by omega, by omega, ham, by go_num, by go_num, rfl, HR2.out, unhide HI, unhide HP, grownBy_trans (grownBy_trans (unhide HG) (grownBy_set _ _ _ _)) (grownBy_set _ _ _ _)⟩
              case measure => simp [intOf]; omega
            · have HR2 := hide hrow
              have HI := hide (hinv.same (by omega) (by rw [hx]; exact hxp))
              have HP := hide hperm
              have HG := hide hgr
              have hx1 : x ≤ p := by omega
              have hx2 : p ≤ x := by omega
              clear hrow hinv hperm hgr hds' hx hxp
              go_wp2
              go_roundw
              case rel => exact ⟨b, i + 1, a, _, by omega, by omega, ham, rfl, by go_num, rfl, unhide HR2, unhide HI, unhide HP, unhide HG⟩
              case measure => simp [intOf]; omega
            · obtain ⟨a, rfl⟩ : ∃ a', a = a' + 1 := ⟨a - 1, by omega⟩
              have cb := hrow.cell (lo + a) (by omega)
              obtain ⟨y, hy⟩ : ∃ y, d'[lo + a]! = y := ⟨_, rfl⟩
              rw [hy] at cb
              have fb := hrow.frozen (lo + a)
              have r1 := hrow.set (lo + a) x
              have ci2 := r1.cell (lo + i) (by simp; omega)
              have fi2 := r1.frozen (lo + i)
              have HR2 : Hid (Row ((wr.setCell ⟨S, lo + a, none⟩ (.int .i64 x)).setCell ⟨S, lo + i, none⟩ (.int .i64 y)) S (swp d' (lo + a) (lo + i))) := by rw [← hx, ← hy]; exact hrow.swap (lo + a) (lo + i)
              have HI := hide (PInv.greater (A := lo + a) hinv (by omega) (by rw [hx]; exact hxp))
              have HP := hide (permIn_trans _ _ _ _ _ hperm (swp_permIn d' lo (lo + m) (lo + a) (lo + i) (by omega) (by omega) (by omega) (by omega) (by omega)))
              have HG := hide hgr
              clear hrow hinv hperm hgr hds' r1 hx hy
              go_wp2
              go_roundw
              case rel => exact ⟨b, i, a, _, by omega, by omega, by omega, rfl, rfl, rfl, HR2.out, unhide HI, unhide HP, grownBy_trans (grownBy_trans (unhide HG) (grownBy_set _ _ _ _)) (grownBy_set _ _ _ _)⟩
              case measure => simp [intOf]; omega
          · obtain rfl : i = a := by omega
            have hba : b < i := by have := hinv.some; omega
            have HQ' := unhide HQ
            have HO := hide ((unhide HOUT).turn hperm)
            have HR2 := hide hrow
            have HI := hide hinv
            have HG := hide hgr
            clear hrow hinv hperm hgr hds' HQ'
            by_cases hqb : q < b
            · have hsl := slice_to S lo m n b (by omega) (by omega)
              go_wp2
              go_roundw
              case rel => exact ⟨lo, b, q, _, d', by omega, unhide HQ, rfl, rfl, rfl, unhide HR2, (unhide HO).left (unhide HI) (by have := unhide HQ; omega), unhide HG⟩
              case measure => simp [lenOf]; omega
            · by_cases hqa : q < i
              · go_wp2
                go_ret
                exact ⟨d', p, rfl, unhide HR2, (unhide HO).mid (unhide HI) (by have := unhide HQ; omega) (by have := unhide HQ; omega), unhide HG⟩
              · have hsl := slice_from S lo m n i (by omega) (by omega)
                go_wp2
                go_roundw
                case rel =>
                  have hq := unhide HQ
                  have ho := (unhide HO).right (unhide HI) (by omega)
                  rw [show lo + m = lo + i + (m - i) by omega] at ho
                  exact ⟨lo + i, m - i, q - i, _, d', by omega, by omega, rfl, by go_num, rfl, unhide HR2, ho, unhide HG⟩
                case measure => simp [lenOf]; omega
    · have hq1 : q = 0 := by omega
      have hm2 : m = 1 := by omega
      have hc := hrow.cell (lo + q) (by omega)
      have HF : Hid (Final d0 d P d[lo + q]!) := by rw [hq]; exact hout.one (by omega)
      have HROW := hide hrow
      have HG := hide hgr
      clear hrow hout hgr hds hq hq1 hm2
      go_wp2
      go_ret
      exact ⟨d, d[lo + q]!, rfl, unhide HROW, HF.out, unhide HG⟩

/-- The shim 'ZZNthSmallest'. -/
theorem shim_any (S n P : Nat) (r : Int) (d0 : Array Int) (w : World) (hr : Row w S d0) (hn : d0.size = n) (hn1 : n ≤ 1048576) (hP : P < n) :
    Calls Try.prog 15 #[.slice (some ⟨S, 0, none⟩) n n, .int .i64 (P : Int), .int .i64 r] w fun e w' => ∃ (d : Array Int) (v : Int), e = .returned (.int .i64 v) ∧ Row w' S d ∧ Final d0 d P v ∧ w.grownBy w' (some S) := by
  have HC := hide (nth_any S n P r d0 w hr hn hn1 hP)
  clear hr hn
  go_enter Try.func15, Try.ntmps15
  go_wp2_with (go_at_call 25; refine (unhide HC).mono ?_; rintro e w' ⟨d, v, rfl, h1, h2, h3⟩)
  go_ret
  exact ⟨d, v, rfl, by assumption, by assumption, by assumption⟩
end Go.Proofs.Qxb6603093a.Nth
