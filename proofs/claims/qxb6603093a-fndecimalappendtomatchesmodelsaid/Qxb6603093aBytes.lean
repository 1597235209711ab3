/-
  Rows of bytes that the call itself owns; the contract of 'sameBytes' (22) at two equal rows.
-/
import Derived.Test.Qxb6603093aRows
import Derived.WalkKit
import Derived.ProofKit
import Derived.PlainAid
import Derived.Handy
import Derived.BigQuiet
import Derived.Deep.QuietTactic
namespace Go.Proofs.Qxb6603093a.Byt
open Go.RowKit Go.PlainAid

theorem hide {p : Prop} (h : p) : Hid p := h
theorem unhide {p : Prop} (h : Hid p) : p := h

/-- The slice value v owns the bytes l. -/
def Owns (w : World) (base : Nat) (v : Value) (l : List Int) : Prop := w.ownsRow base 5 1 v l.length (l.map (Value.int .u8))

/-- What an owned row that is not empty looks like. -/
theorem Owns.shape {w : World} {base : Nat} {v : Value} {l : List Int} (h : Owns w base v l) (hl : 0 < l.length) :
    ∃ g cap, v = .slice (some ⟨g, 0, none⟩) l.length cap ∧ base ≤ g ∧ g < w.heap.size ∧ l.length ≤ cap ∧ cap ≤ maxLen ∧ ∀ j, j < l.length → w.cell? ⟨g, j, none⟩ = some (.int .u8 (l.getD j 0)) := by
  have h0 := h
  obtain ⟨_, hv | ⟨g, cap, cur, rfl, hg, hh, hc, hm, hs, ht⟩⟩ := h
  · omega
  · refine ⟨g, cap, rfl, hg, ?_, hc, hm, fun j hj => ?_⟩
    · rcases Nat.lt_or_ge g w.heap.size with h | h
      · exact h
      · rw [Array.getElem?_eq_none h] at hh; cases hh
    · have := World.ownsRow.cellAt h0 j (by omega)
      rw [this]
      simp [hj]

theorem Owns.kept {w w' : World} {base : Nat} {v : Value} {l : List Int} (h : Owns w base v l) {row : Option Nat} (hg : w.grownBy w' row) (hne : v.ownBlock ≠ row) : Owns w' base v l :=
  World.ownsRow.kept h hg (.inr hne)

/-- An owned row below B stays owned while only what lies from B on is turned. -/
theorem Owns.below {w w' : World} {base B : Nat} {v : Value} {l : List Int} (h : Owns w base v l) (hb : Below B w w') (hv : ∀ k, v.ownBlock = some k → k < B) : Owns w' base v l := by
  obtain ⟨h1, h2⟩ := h
  refine ⟨h1, ?_⟩
  rcases h2 with h2 | ⟨g, cap, cur, rfl, hg, hh, r⟩
  · exact .inl h2
  · exact .inr ⟨g, cap, cur, rfl, hg, by rw [hb.block g (hv g rfl)]; exact hh, r⟩

/-- 'sameBytes' at two rows that hold the same bytes. -/
theorem same_any (l : List Int) (n g1 c1 g2 c2 : Nat) (w : World) (hm : n ≤ 1099511627776)
    (h1 : ∀ j, j < n → w.cell? ⟨g1, j, none⟩ = some (.int .u8 (l.getD j 0))) (h2 : ∀ j, j < n → w.cell? ⟨g2, j, none⟩ = some (.int .u8 (l.getD j 0))) :
    Calls Try.prog 22 #[.slice (some ⟨g1, 0, none⟩) n c1, .slice (some ⟨g2, 0, none⟩) n c2] w fun e w' => e = .returned (.bool true) ∧ ∃ q, w' = w.drewN q := by
  have hz : ((n : Int) == (n : Int)) = true := by simp
  go_enter Try.func22, Try.ntmps22
  go_wp2
  go_loopw [5] (fun c wr => ∃ k q : Nat, k ≤ n ∧ c = .int .i64 k ∧ wr = w.drewN q) (fun c _ => n - (intOf c).toNat)
  case atStart => exact ⟨0, 0, Nat.zero_le _, rfl, rfl⟩
  case round =>
    obtain ⟨k, q, hk, rfl, rfl⟩ := hrel
    by_cases hlt : k < n
    · have e1 := h1 k hlt
      have e2 := h2 k hlt
      clear h1 h2
      go_wp2
      go_quiet (fail)
      go_wp2
      go_roundw
      case rel => exact ⟨k + 1, _, by omega, by go_num, rfl⟩
      case measure => simp [intOf]; omega
    · go_wp2
      go_ret
      exact ⟨rfl, q, rfl⟩
end Go.Proofs.Qxb6603093a.Byt
