/-
  No cell of these rows narrows 'for every input' (looked for: loops, veiled, ifaces, maps, wideKeys, modest, calm, conditions, laid).
  DERIVED. THE GIVEN ROWS OF THIS SEAT. 3 by the template 'for every input the law returns true; each argument reads behind the call as it read before'; 0 by the template 'total and deterministic' (their statements: Qxb6600810aTotals.lean).
  GIVEN WITH THE SEED: the statements are not yours to turn. If you find one false, say at which input.
  Laid BY PROGRAM, IN A SANDBOX (cutbox-rows.mjs): the forced cells as the released guide's own fill.sh prints them over the translation 42befc5971c4d614… (all of the seat's roots in one cut). By AI agents, Wed Nov 11 2026. No macro, syntax, notation, axiom, sorry.
-/
import Derived.Test.Qxb6600810aChecked
import GoSem.Claim
import GoSem.ClaimJoined
import GoSem.ClaimMapViews
import Derived.JoinedTies
import Derived.KernelRfl
namespace Go.Proofs.Qxb6600810a
/- THE CELL 'sum', in the pinned program and in every row, IS THE sha256 OF THE DUMP (.gsa) THAT Qxb6600810aProg.lean LOADS. Nothing in Lean hashes anything: it is a label: what it is worth is what the hold of that sum in a sandbox is worth. -/
noncomputable def Try.pinned : Pinned := { name := "qxb6600810a", sum := "42befc5971c4d614b9b40c6ec4e26cb3dc378dc5cda93391d78f8355fb23d9de", checked := Try.checked }
namespace Rows
def none {H : Type} : Left H := { results := [], args := [] }

/-- 'zzlaws_internal_bench_b1.FnKindOfExactOnDyadicShares': WHATEVER THE INPUT: true; the input reads as it did. -/
def fnKindOfExactOnDyadicSharesSpec : ChangeSpec := { name := "fnKindOfExactOnDyadicShares", fn := fun _ => fun
  | [d1, d2] => { results := [.lit (.bool true)], args := [d1, d2] }
  | _ => none }
def fnKindOfExactOnDyadicSharesRow : OpenClaim := { program := "qxb6600810a", sum := "42befc5971c4d614b9b40c6ec4e26cb3dc378dc5cda93391d78f8355fb23d9de", func := "example.com/tidelock/tidelock/zzlaws_internal_bench_b1.FnKindOfExactOnDyadicShares", spec := "fnKindOfExactOnDyadicShares", apart := false }
def FnKindOfExactOnDyadicSharesSaid : Prop := fnKindOfExactOnDyadicSharesRow.holds Try.pinned (OpenSpec.ofChange fnKindOfExactOnDyadicSharesSpec)

/-- ITS FALSE NEIGHBOUR: 'it returns false'. Refute it at one input. -/
def fnKindOfExactOnDyadicSharesWrong : ChangeSpec := { name := "fnKindOfExactOnDyadicShares", fn := fun _ => fun
  | [d1, d2] => { results := [.lit (.bool false)], args := [d1, d2] }
  | _ => none }
def FnKindOfExactOnDyadicSharesWrongFalsely : Prop := fnKindOfExactOnDyadicSharesRow.holds Try.pinned (OpenSpec.ofChange fnKindOfExactOnDyadicSharesWrong)

/-- 'zzlaws_internal_bench_b1.FnKindOfNeverPicksZeroShare': WHATEVER THE INPUT: true; the input reads as it did. -/
def fnKindOfNeverPicksZeroShareSpec : ChangeSpec := { name := "fnKindOfNeverPicksZeroShare", fn := fun _ => fun
  | [d1, d2] => { results := [.lit (.bool true)], args := [d1, d2] }
  | _ => none }
def fnKindOfNeverPicksZeroShareRow : OpenClaim := { program := "qxb6600810a", sum := "42befc5971c4d614b9b40c6ec4e26cb3dc378dc5cda93391d78f8355fb23d9de", func := "example.com/tidelock/tidelock/zzlaws_internal_bench_b1.FnKindOfNeverPicksZeroShare", spec := "fnKindOfNeverPicksZeroShare", apart := false }
def FnKindOfNeverPicksZeroShareSaid : Prop := fnKindOfNeverPicksZeroShareRow.holds Try.pinned (OpenSpec.ofChange fnKindOfNeverPicksZeroShareSpec)

/-- ITS FALSE NEIGHBOUR: 'it returns false'. Refute it at one input. -/
def fnKindOfNeverPicksZeroShareWrong : ChangeSpec := { name := "fnKindOfNeverPicksZeroShare", fn := fun _ => fun
  | [d1, d2] => { results := [.lit (.bool false)], args := [d1, d2] }
  | _ => none }
def FnKindOfNeverPicksZeroShareWrongFalsely : Prop := fnKindOfNeverPicksZeroShareRow.holds Try.pinned (OpenSpec.ofChange fnKindOfNeverPicksZeroShareWrong)

/-- 'zzlaws_internal_bench_b1.FnKindOfMonotoneInU': WHATEVER THE INPUT: true; the input reads as it did. -/
def fnKindOfMonotoneInUSpec : ChangeSpec := { name := "fnKindOfMonotoneInU", fn := fun _ => fun
  | [d1, d2, d3] => { results := [.lit (.bool true)], args := [d1, d2, d3] }
  | _ => none }
def fnKindOfMonotoneInURow : OpenClaim := { program := "qxb6600810a", sum := "42befc5971c4d614b9b40c6ec4e26cb3dc378dc5cda93391d78f8355fb23d9de", func := "example.com/tidelock/tidelock/zzlaws_internal_bench_b1.FnKindOfMonotoneInU", spec := "fnKindOfMonotoneInU", apart := false }
def FnKindOfMonotoneInUSaid : Prop := fnKindOfMonotoneInURow.holds Try.pinned (OpenSpec.ofChange fnKindOfMonotoneInUSpec)

/-- ITS FALSE NEIGHBOUR: 'it returns false'. Refute it at one input. -/
def fnKindOfMonotoneInUWrong : ChangeSpec := { name := "fnKindOfMonotoneInU", fn := fun _ => fun
  | [d1, d2, d3] => { results := [.lit (.bool false)], args := [d1, d2, d3] }
  | _ => none }
def FnKindOfMonotoneInUWrongFalsely : Prop := fnKindOfMonotoneInURow.holds Try.pinned (OpenSpec.ofChange fnKindOfMonotoneInUWrong)

end Rows
end Go.Proofs.Qxb6600810a
