/-
  No cell of these rows narrows 'for every input' (looked for: loops, veiled, ifaces, maps, wideKeys, modest, calm, conditions, laid).
  DERIVED. THE GIVEN ROWS OF THIS SEAT. 5 by the template 'for every input the law returns true; each argument reads behind the call as it read before'; 0 by the template 'total and deterministic' (their statements: Qxb6602311aModsTotals.lean).
  GIVEN WITH THE SEED: the statements are not yours to turn. If you find one false, say at which input.
  Laid BY PROGRAM, IN A SANDBOX (cutbox-rows.mjs): the forced cells as the released guide's own fill.sh prints them over the translation 65e0bc86dd4a8348… (all of the seat's roots in one cut). By AI agents, Wed Nov 11 2026. No macro, syntax, notation, axiom, sorry.
-/
import Derived.Test.Qxb6602311aModsChecked
import GoSem.Claim
import GoSem.ClaimJoined
import GoSem.ClaimMapViews
import Derived.JoinedTies
import Derived.KernelRfl
namespace Go.Proofs.Qxb6602311aMods
/- THE CELL 'sum', in the pinned program and in every row, IS THE sha256 OF THE DUMP (.gsa) THAT Qxb6602311aModsProg.lean LOADS. Nothing in Lean hashes anything: it is a label: what it is worth is what the hold of that sum in a sandbox is worth. -/
noncomputable def Trym.pinned : Pinned := { name := "qxb6602311amods", sum := "65e0bc86dd4a8348bd9269b878e29e2811ca24af65ee35c4277c8fe98aed4966", checked := Trym.checked }
namespace Rows
def none {H : Type} : Left H := { results := [], args := [] }

/-- 'zzlaws_internal_dht_b1.FnDistancesTowardMatchesNearestFirstModel': WHATEVER THE INPUT: true; the input reads as it did. -/
def fnDistancesTowardMatchesNearestFirstModelSpec : ChangeSpec := { name := "fnDistancesTowardMatchesNearestFirstModel", fn := fun _ => fun
  | [d1, d2] => { results := [.lit (.bool true)], args := [d1, d2] }
  | _ => none }
def fnDistancesTowardMatchesNearestFirstModelRow : OpenClaim := { program := "qxb6602311amods", sum := "65e0bc86dd4a8348bd9269b878e29e2811ca24af65ee35c4277c8fe98aed4966", func := "example.com/holdfast/holdfast/zzlaws_internal_dht_b1.FnDistancesTowardMatchesNearestFirstModel", spec := "fnDistancesTowardMatchesNearestFirstModel", unfollowed := true, recurses := true, make := .lifted ["publicsums"], apart := false }
def FnDistancesTowardMatchesNearestFirstModelSaid : Prop := fnDistancesTowardMatchesNearestFirstModelRow.holds Trym.pinned (OpenSpec.ofChange fnDistancesTowardMatchesNearestFirstModelSpec)

/-- ITS FALSE NEIGHBOUR: 'it returns false'. Refute it at one input. -/
def fnDistancesTowardMatchesNearestFirstModelWrong : ChangeSpec := { name := "fnDistancesTowardMatchesNearestFirstModel", fn := fun _ => fun
  | [d1, d2] => { results := [.lit (.bool false)], args := [d1, d2] }
  | _ => none }
def FnDistancesTowardMatchesNearestFirstModelWrongFalsely : Prop := fnDistancesTowardMatchesNearestFirstModelRow.holds Trym.pinned (OpenSpec.ofChange fnDistancesTowardMatchesNearestFirstModelWrong)

/-- 'zzlaws_internal_dht_b1.FnDistancesTowardDependsOnlyOnXor': WHATEVER THE INPUT: true; the input reads as it did. -/
def fnDistancesTowardDependsOnlyOnXorSpec : ChangeSpec := { name := "fnDistancesTowardDependsOnlyOnXor", fn := fun _ => fun
  | [d1, d2, d3] => { results := [.lit (.bool true)], args := [d1, d2, d3] }
  | _ => none }
def fnDistancesTowardDependsOnlyOnXorRow : OpenClaim := { program := "qxb6602311amods", sum := "65e0bc86dd4a8348bd9269b878e29e2811ca24af65ee35c4277c8fe98aed4966", func := "example.com/holdfast/holdfast/zzlaws_internal_dht_b1.FnDistancesTowardDependsOnlyOnXor", spec := "fnDistancesTowardDependsOnlyOnXor", unfollowed := true, recurses := true, make := .lifted ["publicsums"], apart := false }
def FnDistancesTowardDependsOnlyOnXorSaid : Prop := fnDistancesTowardDependsOnlyOnXorRow.holds Trym.pinned (OpenSpec.ofChange fnDistancesTowardDependsOnlyOnXorSpec)

/-- ITS FALSE NEIGHBOUR: 'it returns false'. Refute it at one input. -/
def fnDistancesTowardDependsOnlyOnXorWrong : ChangeSpec := { name := "fnDistancesTowardDependsOnlyOnXor", fn := fun _ => fun
  | [d1, d2, d3] => { results := [.lit (.bool false)], args := [d1, d2, d3] }
  | _ => none }
def FnDistancesTowardDependsOnlyOnXorWrongFalsely : Prop := fnDistancesTowardDependsOnlyOnXorRow.holds Trym.pinned (OpenSpec.ofChange fnDistancesTowardDependsOnlyOnXorWrong)

/-- 'zzlaws_internal_dht_b1.FnDistancesTowardOrdersNodesAtDistance': WHATEVER THE INPUT: true; the input reads as it did. -/
def fnDistancesTowardOrdersNodesAtDistanceSpec : ChangeSpec := { name := "fnDistancesTowardOrdersNodesAtDistance", fn := fun _ => fun
  | [d1, d2, d3, d4] => { results := [.lit (.bool true)], args := [d1, d2, d3, d4] }
  | _ => none }
def fnDistancesTowardOrdersNodesAtDistanceRow : OpenClaim := { program := "qxb6602311amods", sum := "65e0bc86dd4a8348bd9269b878e29e2811ca24af65ee35c4277c8fe98aed4966", func := "example.com/holdfast/holdfast/zzlaws_internal_dht_b1.FnDistancesTowardOrdersNodesAtDistance", spec := "fnDistancesTowardOrdersNodesAtDistance", unfollowed := true, recurses := true, make := .lifted ["publicsums"], apart := false }
def FnDistancesTowardOrdersNodesAtDistanceSaid : Prop := fnDistancesTowardOrdersNodesAtDistanceRow.holds Trym.pinned (OpenSpec.ofChange fnDistancesTowardOrdersNodesAtDistanceSpec)

/-- ITS FALSE NEIGHBOUR: 'it returns false'. Refute it at one input. -/
def fnDistancesTowardOrdersNodesAtDistanceWrong : ChangeSpec := { name := "fnDistancesTowardOrdersNodesAtDistance", fn := fun _ => fun
  | [d1, d2, d3, d4] => { results := [.lit (.bool false)], args := [d1, d2, d3, d4] }
  | _ => none }
def FnDistancesTowardOrdersNodesAtDistanceWrongFalsely : Prop := fnDistancesTowardOrdersNodesAtDistanceRow.holds Trym.pinned (OpenSpec.ofChange fnDistancesTowardOrdersNodesAtDistanceWrong)

/-- 'zzlaws_internal_dht_b1.FnAtDistanceBitTable': WHATEVER THE INPUT: true; the input reads as it did. -/
def fnAtDistanceBitTableSpec : ChangeSpec := { name := "fnAtDistanceBitTable", fn := fun _ => fun
  | [d1, d2, d3] => { results := [.lit (.bool true)], args := [d1, d2, d3] }
  | _ => none }
def fnAtDistanceBitTableRow : OpenClaim := { program := "qxb6602311amods", sum := "65e0bc86dd4a8348bd9269b878e29e2811ca24af65ee35c4277c8fe98aed4966", func := "example.com/holdfast/holdfast/zzlaws_internal_dht_b1.FnAtDistanceBitTable", spec := "fnAtDistanceBitTable", make := .lifted ["publicsums"], apart := false }
def FnAtDistanceBitTableSaid : Prop := fnAtDistanceBitTableRow.holds Trym.pinned (OpenSpec.ofChange fnAtDistanceBitTableSpec)

/-- ITS FALSE NEIGHBOUR: 'it returns false'. Refute it at one input. -/
def fnAtDistanceBitTableWrong : ChangeSpec := { name := "fnAtDistanceBitTable", fn := fun _ => fun
  | [d1, d2, d3] => { results := [.lit (.bool false)], args := [d1, d2, d3] }
  | _ => none }
def FnAtDistanceBitTableWrongFalsely : Prop := fnAtDistanceBitTableRow.holds Trym.pinned (OpenSpec.ofChange fnAtDistanceBitTableWrong)

/-- 'zzlaws_internal_dht_b1.FnAtDistanceRoundTrip': WHATEVER THE INPUT: true; the input reads as it did. -/
def fnAtDistanceRoundTripSpec : ChangeSpec := { name := "fnAtDistanceRoundTrip", fn := fun _ => fun
  | [d1, d2, d3] => { results := [.lit (.bool true)], args := [d1, d2, d3] }
  | _ => none }
def fnAtDistanceRoundTripRow : OpenClaim := { program := "qxb6602311amods", sum := "65e0bc86dd4a8348bd9269b878e29e2811ca24af65ee35c4277c8fe98aed4966", func := "example.com/holdfast/holdfast/zzlaws_internal_dht_b1.FnAtDistanceRoundTrip", spec := "fnAtDistanceRoundTrip", make := .lifted ["publicsums"], apart := false }
def FnAtDistanceRoundTripSaid : Prop := fnAtDistanceRoundTripRow.holds Trym.pinned (OpenSpec.ofChange fnAtDistanceRoundTripSpec)

/-- ITS FALSE NEIGHBOUR: 'it returns false'. Refute it at one input. -/
def fnAtDistanceRoundTripWrong : ChangeSpec := { name := "fnAtDistanceRoundTrip", fn := fun _ => fun
  | [d1, d2, d3] => { results := [.lit (.bool false)], args := [d1, d2, d3] }
  | _ => none }
def FnAtDistanceRoundTripWrongFalsely : Prop := fnAtDistanceRoundTripRow.holds Trym.pinned (OpenSpec.ofChange fnAtDistanceRoundTripWrong)

end Rows
end Go.Proofs.Qxb6602311aMods
