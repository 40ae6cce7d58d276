/-
  No cell of these rows narrows 'for every input' (looked for: loops, veiled, ifaces, maps, wideKeys, modest, calm, conditions, laid).
  DERIVED. THE GIVEN ROWS OF THIS SEAT. 7 by the template 'for every input the law returns true; each argument reads behind the call as it read before'; 0 by the template 'total and deterministic' (their statements: Qxb6602186aModsTotals.lean).
  GIVEN WITH THE SEED: the statements are not yours to turn. If you find one false, say at which input.
  Laid BY PROGRAM, IN A SANDBOX (cutbox-rows.mjs): the forced cells as the released guide's own fill.sh prints them over the translation 214c843989a8d851… (all of the seat's roots in one cut). By AI agents, Wed Nov 11 2026. No macro, syntax, notation, axiom, sorry.
-/
import Derived.Test.Qxb6602186aModsChecked
import GoSem.Claim
import GoSem.ClaimJoined
import GoSem.ClaimMapViews
import Derived.JoinedTies
import Derived.KernelRfl
namespace Go.Proofs.Qxb6602186aMods
/- THE CELL 'sum', in the pinned program and in every row, IS THE sha256 OF THE DUMP (.gsa) THAT Qxb6602186aModsProg.lean LOADS. Nothing in Lean hashes anything: it is a label: what it is worth is what the hold of that sum in a sandbox is worth. -/
noncomputable def Trym.pinned : Pinned := { name := "qxb6602186amods", sum := "214c843989a8d851f7ccc336f5e1b4cd7d4b329235aa2bd6f88f0bbe4c913455", checked := Trym.checked }
namespace Rows
def none {H : Type} : Left H := { results := [], args := [] }

/-- 'zzlaws_root_b1.FnDifferenceCountsAgainstScanModel': WHATEVER THE INPUT: true; the input reads as it did. -/
def fnDifferenceCountsAgainstScanModelSpec : ChangeSpec := { name := "fnDifferenceCountsAgainstScanModel", fn := fun _ => fun
  | [d1, d2] => { results := [.lit (.bool true)], args := [d1, d2] }
  | _ => none }
def fnDifferenceCountsAgainstScanModelRow : OpenClaim := { program := "qxb6602186amods", sum := "214c843989a8d851f7ccc336f5e1b4cd7d4b329235aa2bd6f88f0bbe4c913455", func := "example.com/briareus/briareus/zzlaws_root_b1.FnDifferenceCountsAgainstScanModel", spec := "fnDifferenceCountsAgainstScanModel", make := .lifted ["publicsums"], apart := false }
def FnDifferenceCountsAgainstScanModelSaid : Prop := fnDifferenceCountsAgainstScanModelRow.holds Trym.pinned (OpenSpec.ofChange fnDifferenceCountsAgainstScanModelSpec)

/-- ITS FALSE NEIGHBOUR: 'it returns false'. Refute it at one input. -/
def fnDifferenceCountsAgainstScanModelWrong : ChangeSpec := { name := "fnDifferenceCountsAgainstScanModel", fn := fun _ => fun
  | [d1, d2] => { results := [.lit (.bool false)], args := [d1, d2] }
  | _ => none }
def FnDifferenceCountsAgainstScanModelWrongFalsely : Prop := fnDifferenceCountsAgainstScanModelRow.holds Trym.pinned (OpenSpec.ofChange fnDifferenceCountsAgainstScanModelWrong)

/-- 'zzlaws_root_b1.FnDifferenceSwapsWithItsArguments': WHATEVER THE INPUT: true; the input reads as it did. -/
def fnDifferenceSwapsWithItsArgumentsSpec : ChangeSpec := { name := "fnDifferenceSwapsWithItsArguments", fn := fun _ => fun
  | [d1, d2] => { results := [.lit (.bool true)], args := [d1, d2] }
  | _ => none }
def fnDifferenceSwapsWithItsArgumentsRow : OpenClaim := { program := "qxb6602186amods", sum := "214c843989a8d851f7ccc336f5e1b4cd7d4b329235aa2bd6f88f0bbe4c913455", func := "example.com/briareus/briareus/zzlaws_root_b1.FnDifferenceSwapsWithItsArguments", spec := "fnDifferenceSwapsWithItsArguments", make := .lifted ["publicsums"], apart := false }
def FnDifferenceSwapsWithItsArgumentsSaid : Prop := fnDifferenceSwapsWithItsArgumentsRow.holds Trym.pinned (OpenSpec.ofChange fnDifferenceSwapsWithItsArgumentsSpec)

/-- ITS FALSE NEIGHBOUR: 'it returns false'. Refute it at one input. -/
def fnDifferenceSwapsWithItsArgumentsWrong : ChangeSpec := { name := "fnDifferenceSwapsWithItsArguments", fn := fun _ => fun
  | [d1, d2] => { results := [.lit (.bool false)], args := [d1, d2] }
  | _ => none }
def FnDifferenceSwapsWithItsArgumentsWrongFalsely : Prop := fnDifferenceSwapsWithItsArgumentsRow.holds Trym.pinned (OpenSpec.ofChange fnDifferenceSwapsWithItsArgumentsWrong)

/-- 'zzlaws_root_b1.FnDifferenceBalancesLengths': WHATEVER THE INPUT: true; the input reads as it did. -/
def fnDifferenceBalancesLengthsSpec : ChangeSpec := { name := "fnDifferenceBalancesLengths", fn := fun _ => fun
  | [d1, d2] => { results := [.lit (.bool true)], args := [d1, d2] }
  | _ => none }
def fnDifferenceBalancesLengthsRow : OpenClaim := { program := "qxb6602186amods", sum := "214c843989a8d851f7ccc336f5e1b4cd7d4b329235aa2bd6f88f0bbe4c913455", func := "example.com/briareus/briareus/zzlaws_root_b1.FnDifferenceBalancesLengths", spec := "fnDifferenceBalancesLengths", make := .lifted ["publicsums"], apart := false }
def FnDifferenceBalancesLengthsSaid : Prop := fnDifferenceBalancesLengthsRow.holds Trym.pinned (OpenSpec.ofChange fnDifferenceBalancesLengthsSpec)

/-- ITS FALSE NEIGHBOUR: 'it returns false'. Refute it at one input. -/
def fnDifferenceBalancesLengthsWrong : ChangeSpec := { name := "fnDifferenceBalancesLengths", fn := fun _ => fun
  | [d1, d2] => { results := [.lit (.bool false)], args := [d1, d2] }
  | _ => none }
def FnDifferenceBalancesLengthsWrongFalsely : Prop := fnDifferenceBalancesLengthsRow.holds Trym.pinned (OpenSpec.ofChange fnDifferenceBalancesLengthsWrong)

/-- 'zzlaws_root_b1.FnSubjectMatchesAgreesWithOverlapOnLiteralSubjects': WHATEVER THE INPUT: true; the input reads as it did. -/
def fnSubjectMatchesAgreesWithOverlapOnLiteralSubjectsSpec : ChangeSpec := { name := "fnSubjectMatchesAgreesWithOverlapOnLiteralSubjects", fn := fun _ => fun
  | [d1, d2] => { results := [.lit (.bool true)], args := [d1, d2] }
  | _ => none }
def fnSubjectMatchesAgreesWithOverlapOnLiteralSubjectsRow : OpenClaim := { program := "qxb6602186amods", sum := "214c843989a8d851f7ccc336f5e1b4cd7d4b329235aa2bd6f88f0bbe4c913455", func := "example.com/briareus/briareus/zzlaws_root_b1.FnSubjectMatchesAgreesWithOverlapOnLiteralSubjects", spec := "fnSubjectMatchesAgreesWithOverlapOnLiteralSubjects", make := .lifted ["publicsums"], apart := false }
def FnSubjectMatchesAgreesWithOverlapOnLiteralSubjectsSaid : Prop := fnSubjectMatchesAgreesWithOverlapOnLiteralSubjectsRow.holds Trym.pinned (OpenSpec.ofChange fnSubjectMatchesAgreesWithOverlapOnLiteralSubjectsSpec)

/-- ITS FALSE NEIGHBOUR: 'it returns false'. Refute it at one input. -/
def fnSubjectMatchesAgreesWithOverlapOnLiteralSubjectsWrong : ChangeSpec := { name := "fnSubjectMatchesAgreesWithOverlapOnLiteralSubjects", fn := fun _ => fun
  | [d1, d2] => { results := [.lit (.bool false)], args := [d1, d2] }
  | _ => none }
def FnSubjectMatchesAgreesWithOverlapOnLiteralSubjectsWrongFalsely : Prop := fnSubjectMatchesAgreesWithOverlapOnLiteralSubjectsRow.holds Trym.pinned (OpenSpec.ofChange fnSubjectMatchesAgreesWithOverlapOnLiteralSubjectsWrong)

/-- 'zzlaws_root_b1.FnFiltersOverlapIffCanonicalWitnessMatchesBoth': WHATEVER THE INPUT: true; the input reads as it did. -/
def fnFiltersOverlapIffCanonicalWitnessMatchesBothSpec : ChangeSpec := { name := "fnFiltersOverlapIffCanonicalWitnessMatchesBoth", fn := fun _ => fun
  | [d1, d2] => { results := [.lit (.bool true)], args := [d1, d2] }
  | _ => none }
def fnFiltersOverlapIffCanonicalWitnessMatchesBothRow : OpenClaim := { program := "qxb6602186amods", sum := "214c843989a8d851f7ccc336f5e1b4cd7d4b329235aa2bd6f88f0bbe4c913455", func := "example.com/briareus/briareus/zzlaws_root_b1.FnFiltersOverlapIffCanonicalWitnessMatchesBoth", spec := "fnFiltersOverlapIffCanonicalWitnessMatchesBoth", make := .lifted ["publicsums"], apart := false }
def FnFiltersOverlapIffCanonicalWitnessMatchesBothSaid : Prop := fnFiltersOverlapIffCanonicalWitnessMatchesBothRow.holds Trym.pinned (OpenSpec.ofChange fnFiltersOverlapIffCanonicalWitnessMatchesBothSpec)

/-- ITS FALSE NEIGHBOUR: 'it returns false'. Refute it at one input. -/
def fnFiltersOverlapIffCanonicalWitnessMatchesBothWrong : ChangeSpec := { name := "fnFiltersOverlapIffCanonicalWitnessMatchesBoth", fn := fun _ => fun
  | [d1, d2] => { results := [.lit (.bool false)], args := [d1, d2] }
  | _ => none }
def FnFiltersOverlapIffCanonicalWitnessMatchesBothWrongFalsely : Prop := fnFiltersOverlapIffCanonicalWitnessMatchesBothRow.holds Trym.pinned (OpenSpec.ofChange fnFiltersOverlapIffCanonicalWitnessMatchesBothWrong)

/-- 'zzlaws_root_b1.FnFiltersOverlapSymmetricAndReflexive': WHATEVER THE INPUT: true; the input reads as it did. -/
def fnFiltersOverlapSymmetricAndReflexiveSpec : ChangeSpec := { name := "fnFiltersOverlapSymmetricAndReflexive", fn := fun _ => fun
  | [d1, d2] => { results := [.lit (.bool true)], args := [d1, d2] }
  | _ => none }
def fnFiltersOverlapSymmetricAndReflexiveRow : OpenClaim := { program := "qxb6602186amods", sum := "214c843989a8d851f7ccc336f5e1b4cd7d4b329235aa2bd6f88f0bbe4c913455", func := "example.com/briareus/briareus/zzlaws_root_b1.FnFiltersOverlapSymmetricAndReflexive", spec := "fnFiltersOverlapSymmetricAndReflexive", make := .lifted ["publicsums"], apart := false }
def FnFiltersOverlapSymmetricAndReflexiveSaid : Prop := fnFiltersOverlapSymmetricAndReflexiveRow.holds Trym.pinned (OpenSpec.ofChange fnFiltersOverlapSymmetricAndReflexiveSpec)

/-- ITS FALSE NEIGHBOUR: 'it returns false'. Refute it at one input. -/
def fnFiltersOverlapSymmetricAndReflexiveWrong : ChangeSpec := { name := "fnFiltersOverlapSymmetricAndReflexive", fn := fun _ => fun
  | [d1, d2] => { results := [.lit (.bool false)], args := [d1, d2] }
  | _ => none }
def FnFiltersOverlapSymmetricAndReflexiveWrongFalsely : Prop := fnFiltersOverlapSymmetricAndReflexiveRow.holds Trym.pinned (OpenSpec.ofChange fnFiltersOverlapSymmetricAndReflexiveWrong)

/-- 'zzlaws_root_b1.FnFiltersOverlapWhenASubjectMatchesBoth': WHATEVER THE INPUT: true; the input reads as it did. -/
def fnFiltersOverlapWhenASubjectMatchesBothSpec : ChangeSpec := { name := "fnFiltersOverlapWhenASubjectMatchesBoth", fn := fun _ => fun
  | [d1, d2, d3] => { results := [.lit (.bool true)], args := [d1, d2, d3] }
  | _ => none }
def fnFiltersOverlapWhenASubjectMatchesBothRow : OpenClaim := { program := "qxb6602186amods", sum := "214c843989a8d851f7ccc336f5e1b4cd7d4b329235aa2bd6f88f0bbe4c913455", func := "example.com/briareus/briareus/zzlaws_root_b1.FnFiltersOverlapWhenASubjectMatchesBoth", spec := "fnFiltersOverlapWhenASubjectMatchesBoth", make := .lifted ["publicsums"], apart := false }
def FnFiltersOverlapWhenASubjectMatchesBothSaid : Prop := fnFiltersOverlapWhenASubjectMatchesBothRow.holds Trym.pinned (OpenSpec.ofChange fnFiltersOverlapWhenASubjectMatchesBothSpec)

/-- ITS FALSE NEIGHBOUR: 'it returns false'. Refute it at one input. -/
def fnFiltersOverlapWhenASubjectMatchesBothWrong : ChangeSpec := { name := "fnFiltersOverlapWhenASubjectMatchesBoth", fn := fun _ => fun
  | [d1, d2, d3] => { results := [.lit (.bool false)], args := [d1, d2, d3] }
  | _ => none }
def FnFiltersOverlapWhenASubjectMatchesBothWrongFalsely : Prop := fnFiltersOverlapWhenASubjectMatchesBothRow.holds Trym.pinned (OpenSpec.ofChange fnFiltersOverlapWhenASubjectMatchesBothWrong)

end Rows
end Go.Proofs.Qxb6602186aMods
