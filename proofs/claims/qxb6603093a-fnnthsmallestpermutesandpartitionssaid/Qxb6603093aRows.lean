/-
  No cell of these rows narrows 'for every input' (looked for: loops, veiled, ifaces, maps, wideKeys, modest, calm, conditions, laid).
  DERIVED. THE GIVEN ROWS OF THIS SEAT. 7 by the template 'for every input the law returns true; each argument reads behind the call as it read before'; 0 by the template 'total and deterministic' (their statements: Qxb6603093aTotals.lean).
  GIVEN WITH THE SEED: the statements are not yours to turn. If you find one false, say at which input.
  Laid BY PROGRAM, IN A SANDBOX (cutbox-rows.mjs): the forced cells as the released guide's own fill.sh prints them over the translation 0e33dfe15a3a377f… (all of the seat's roots in one cut). By AI agents, Wed Nov 11 2026. No macro, syntax, notation, axiom, sorry.
-/
import Derived.Test.Qxb6603093aChecked
import GoSem.Claim
import GoSem.ClaimJoined
import GoSem.ClaimMapViews
import Derived.JoinedTies
import Derived.KernelRfl
namespace Go.Proofs.Qxb6603093a
/- THE CELL 'sum', in the pinned program and in every row, IS THE sha256 OF THE DUMP (.gsa) THAT Qxb6603093aProg.lean LOADS. Nothing in Lean hashes anything: it is a label: what it is worth is what the hold of that sum in a sandbox is worth. -/
noncomputable def Try.pinned : Pinned := { name := "qxb6603093a", sum := "0e33dfe15a3a377fd20549b002bfae29da833437338be5113098074da484388d", checked := Try.checked }
namespace Rows
def none {H : Type} : Left H := { results := [], args := [] }

/-- 'zzlaws_root_b1.FnDigitsAtMatchesPlaceValues': WHATEVER THE INPUT: true; the input reads as it did. -/
def fnDigitsAtMatchesPlaceValuesSpec : ChangeSpec := { name := "fnDigitsAtMatchesPlaceValues", fn := fun _ => fun
  | [d1, d2, d3] => { results := [.lit (.bool true)], args := [d1, d2, d3] }
  | _ => none }
def fnDigitsAtMatchesPlaceValuesRow : OpenClaim := { program := "qxb6603093a", sum := "0e33dfe15a3a377fd20549b002bfae29da833437338be5113098074da484388d", func := "example.com/zhaomu/zhaomu/zzlaws_root_b1.FnDigitsAtMatchesPlaceValues", spec := "fnDigitsAtMatchesPlaceValues", apart := false }
def FnDigitsAtMatchesPlaceValuesSaid : Prop := fnDigitsAtMatchesPlaceValuesRow.holds Try.pinned (OpenSpec.ofChange fnDigitsAtMatchesPlaceValuesSpec)

/-- ITS FALSE NEIGHBOUR: 'it returns false'. Refute it at one input. -/
def fnDigitsAtMatchesPlaceValuesWrong : ChangeSpec := { name := "fnDigitsAtMatchesPlaceValues", fn := fun _ => fun
  | [d1, d2, d3] => { results := [.lit (.bool false)], args := [d1, d2, d3] }
  | _ => none }
def FnDigitsAtMatchesPlaceValuesWrongFalsely : Prop := fnDigitsAtMatchesPlaceValuesRow.holds Try.pinned (OpenSpec.ofChange fnDigitsAtMatchesPlaceValuesWrong)

/-- 'zzlaws_root_b1.FnDigitsAtSplits': WHATEVER THE INPUT: true; the input reads as it did. -/
def fnDigitsAtSplitsSpec : ChangeSpec := { name := "fnDigitsAtSplits", fn := fun _ => fun
  | [d1, d2, d3, d4] => { results := [.lit (.bool true)], args := [d1, d2, d3, d4] }
  | _ => none }
def fnDigitsAtSplitsRow : OpenClaim := { program := "qxb6603093a", sum := "0e33dfe15a3a377fd20549b002bfae29da833437338be5113098074da484388d", func := "example.com/zhaomu/zhaomu/zzlaws_root_b1.FnDigitsAtSplits", spec := "fnDigitsAtSplits", apart := false }
def FnDigitsAtSplitsSaid : Prop := fnDigitsAtSplitsRow.holds Try.pinned (OpenSpec.ofChange fnDigitsAtSplitsSpec)

/-- ITS FALSE NEIGHBOUR: 'it returns false'. Refute it at one input. -/
def fnDigitsAtSplitsWrong : ChangeSpec := { name := "fnDigitsAtSplits", fn := fun _ => fun
  | [d1, d2, d3, d4] => { results := [.lit (.bool false)], args := [d1, d2, d3, d4] }
  | _ => none }
def FnDigitsAtSplitsWrongFalsely : Prop := fnDigitsAtSplitsRow.holds Try.pinned (OpenSpec.ofChange fnDigitsAtSplitsWrong)

/-- 'zzlaws_root_b1.FnNthSmallestIsRankStatistic': WHATEVER THE INPUT: true; the input reads as it did. -/
def fnNthSmallestIsRankStatisticSpec : ChangeSpec := { name := "fnNthSmallestIsRankStatistic", fn := fun _ => fun
  | [d1, d2, d3] => { results := [.lit (.bool true)], args := [d1, d2, d3] }
  | _ => none }
def fnNthSmallestIsRankStatisticRow : OpenClaim := { program := "qxb6603093a", sum := "0e33dfe15a3a377fd20549b002bfae29da833437338be5113098074da484388d", func := "example.com/zhaomu/zhaomu/zzlaws_root_b1.FnNthSmallestIsRankStatistic", spec := "fnNthSmallestIsRankStatistic", recurses := true, apart := false }
def FnNthSmallestIsRankStatisticSaid : Prop := fnNthSmallestIsRankStatisticRow.holds Try.pinned (OpenSpec.ofChange fnNthSmallestIsRankStatisticSpec)

/-- ITS FALSE NEIGHBOUR: 'it returns false'. Refute it at one input. -/
def fnNthSmallestIsRankStatisticWrong : ChangeSpec := { name := "fnNthSmallestIsRankStatistic", fn := fun _ => fun
  | [d1, d2, d3] => { results := [.lit (.bool false)], args := [d1, d2, d3] }
  | _ => none }
def FnNthSmallestIsRankStatisticWrongFalsely : Prop := fnNthSmallestIsRankStatisticRow.holds Try.pinned (OpenSpec.ofChange fnNthSmallestIsRankStatisticWrong)

/-- 'zzlaws_root_b1.FnNthSmallestPermutesAndPartitions': WHATEVER THE INPUT: true; the input reads as it did. -/
def fnNthSmallestPermutesAndPartitionsSpec : ChangeSpec := { name := "fnNthSmallestPermutesAndPartitions", fn := fun _ => fun
  | [d1, d2, d3] => { results := [.lit (.bool true)], args := [d1, d2, d3] }
  | _ => none }
def fnNthSmallestPermutesAndPartitionsRow : OpenClaim := { program := "qxb6603093a", sum := "0e33dfe15a3a377fd20549b002bfae29da833437338be5113098074da484388d", func := "example.com/zhaomu/zhaomu/zzlaws_root_b1.FnNthSmallestPermutesAndPartitions", spec := "fnNthSmallestPermutesAndPartitions", recurses := true, apart := false }
def FnNthSmallestPermutesAndPartitionsSaid : Prop := fnNthSmallestPermutesAndPartitionsRow.holds Try.pinned (OpenSpec.ofChange fnNthSmallestPermutesAndPartitionsSpec)

/-- ITS FALSE NEIGHBOUR: 'it returns false'. Refute it at one input. -/
def fnNthSmallestPermutesAndPartitionsWrong : ChangeSpec := { name := "fnNthSmallestPermutesAndPartitions", fn := fun _ => fun
  | [d1, d2, d3] => { results := [.lit (.bool false)], args := [d1, d2, d3] }
  | _ => none }
def FnNthSmallestPermutesAndPartitionsWrongFalsely : Prop := fnNthSmallestPermutesAndPartitionsRow.holds Try.pinned (OpenSpec.ofChange fnNthSmallestPermutesAndPartitionsWrong)

/-- 'zzlaws_root_b1.FnDecimalAppendToMatchesModel': WHATEVER THE INPUT: true; the input reads as it did. -/
def fnDecimalAppendToMatchesModelSpec : ChangeSpec := { name := "fnDecimalAppendToMatchesModel", fn := fun _ => fun
  | [d1, d2, d3] => { results := [.lit (.bool true)], args := [d1, d2, d3] }
  | _ => none }
def fnDecimalAppendToMatchesModelRow : OpenClaim := { program := "qxb6603093a", sum := "0e33dfe15a3a377fd20549b002bfae29da833437338be5113098074da484388d", func := "example.com/zhaomu/zhaomu/zzlaws_root_b1.FnDecimalAppendToMatchesModel", spec := "fnDecimalAppendToMatchesModel", apart := false }
def FnDecimalAppendToMatchesModelSaid : Prop := fnDecimalAppendToMatchesModelRow.holds Try.pinned (OpenSpec.ofChange fnDecimalAppendToMatchesModelSpec)

/-- ITS FALSE NEIGHBOUR: 'it returns false'. Refute it at one input. -/
def fnDecimalAppendToMatchesModelWrong : ChangeSpec := { name := "fnDecimalAppendToMatchesModel", fn := fun _ => fun
  | [d1, d2, d3] => { results := [.lit (.bool false)], args := [d1, d2, d3] }
  | _ => none }
def FnDecimalAppendToMatchesModelWrongFalsely : Prop := fnDecimalAppendToMatchesModelRow.holds Try.pinned (OpenSpec.ofChange fnDecimalAppendToMatchesModelWrong)

/-- 'zzlaws_root_b1.FnDecimalAppendToTrailingZero': WHATEVER THE INPUT: true; the input reads as it did. -/
def fnDecimalAppendToTrailingZeroSpec : ChangeSpec := { name := "fnDecimalAppendToTrailingZero", fn := fun _ => fun
  | [d1, d2] => { results := [.lit (.bool true)], args := [d1, d2] }
  | _ => none }
def fnDecimalAppendToTrailingZeroRow : OpenClaim := { program := "qxb6603093a", sum := "0e33dfe15a3a377fd20549b002bfae29da833437338be5113098074da484388d", func := "example.com/zhaomu/zhaomu/zzlaws_root_b1.FnDecimalAppendToTrailingZero", spec := "fnDecimalAppendToTrailingZero", apart := false }
def FnDecimalAppendToTrailingZeroSaid : Prop := fnDecimalAppendToTrailingZeroRow.holds Try.pinned (OpenSpec.ofChange fnDecimalAppendToTrailingZeroSpec)

/-- ITS FALSE NEIGHBOUR: 'it returns false'. Refute it at one input. -/
def fnDecimalAppendToTrailingZeroWrong : ChangeSpec := { name := "fnDecimalAppendToTrailingZero", fn := fun _ => fun
  | [d1, d2] => { results := [.lit (.bool false)], args := [d1, d2] }
  | _ => none }
def FnDecimalAppendToTrailingZeroWrongFalsely : Prop := fnDecimalAppendToTrailingZeroRow.holds Try.pinned (OpenSpec.ofChange fnDecimalAppendToTrailingZeroWrong)

/-- 'zzlaws_root_b1.FnDecimalAppendToReadsBackByDigitsAt': WHATEVER THE INPUT: true; the input reads as it did. -/
def fnDecimalAppendToReadsBackByDigitsAtSpec : ChangeSpec := { name := "fnDecimalAppendToReadsBackByDigitsAt", fn := fun _ => fun
  | [d1, d2] => { results := [.lit (.bool true)], args := [d1, d2] }
  | _ => none }
def fnDecimalAppendToReadsBackByDigitsAtRow : OpenClaim := { program := "qxb6603093a", sum := "0e33dfe15a3a377fd20549b002bfae29da833437338be5113098074da484388d", func := "example.com/zhaomu/zhaomu/zzlaws_root_b1.FnDecimalAppendToReadsBackByDigitsAt", spec := "fnDecimalAppendToReadsBackByDigitsAt", apart := false }
def FnDecimalAppendToReadsBackByDigitsAtSaid : Prop := fnDecimalAppendToReadsBackByDigitsAtRow.holds Try.pinned (OpenSpec.ofChange fnDecimalAppendToReadsBackByDigitsAtSpec)

/-- ITS FALSE NEIGHBOUR: 'it returns false'. Refute it at one input. -/
def fnDecimalAppendToReadsBackByDigitsAtWrong : ChangeSpec := { name := "fnDecimalAppendToReadsBackByDigitsAt", fn := fun _ => fun
  | [d1, d2] => { results := [.lit (.bool false)], args := [d1, d2] }
  | _ => none }
def FnDecimalAppendToReadsBackByDigitsAtWrongFalsely : Prop := fnDecimalAppendToReadsBackByDigitsAtRow.holds Try.pinned (OpenSpec.ofChange fnDecimalAppendToReadsBackByDigitsAtWrong)

end Rows
end Go.Proofs.Qxb6603093a
